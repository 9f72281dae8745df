import JvmDerived
import JvmDerived.Pilot.@@N@@Statement
import JvmDerived.Pilot.@@N@@Code
set_option linter.unusedVariables false
set_option linter.unusedSimpArgs false
namespace Jvm.RoadKit
open Sem ClassFile Op Lib Jvm.Stand Jvm.Free Jvm.LawKit
section New
variable {p : Program} {l : Launch} {e : Env} {R : Room} {s : State} {m : MethodId} {args : Array Value} {below : List Frame} {meth : Method} {c : Code} {T : State} {locs : List Loc} {cells slots : Nat}
theorem retI (X : Stand p l e R s m args below meth c T locs cells slots) (hx : p.tables.exec = Jvm.exec) {pc : Nat} {Ls : Array Slot} {z : Int32} {rest : List Value} (hret : meth.sig.returnType = some .int) (hd : decode c.code pc = .ok (.ireturn, 1)) {fs : List Frame}
    (hl : ∀ (f : JFrame) (acts : List Action), f.method = m → f.locked = none → f.entered = [] → (doReturn e (T.setTop f) acts (some (.int z))).1 = T.setFrames fs) : Steps p.tables e below (T.setTop (mkF m pc Ls (.int z :: rest))) (T.setFrames fs) := by
  have hm' : T.vm.method? m = some meth := X.method'
  have hn : narrow .int (.int z) = .int z := rfl
  show Steps p.tables e below (T.setTop { method := m, pc := pc, locals := Ls, stack := _ :: rest, locked := none }) _
  jvm_step X.here [X.here.top, hx, hd, hm', hret, hn]
  first | (intro acts; rw [hl _ acts rfl rfl rfl]) | rw [hl _ _ rfl rfl rfl]
  exact Steps.refl _
end New
end Jvm.RoadKit
namespace Jvm.Pilot.@@N@@
open Jvm Jvm.ClassFile Sem Op Lib Jvm.Free Jvm.Stand Jvm.LawKit Jvm.RoadKit Bundle Jvm.Pilot.@@N@@.Jvm.D
/-- the law's own pos; the lesser; the greater; a range's length -/
def own_pos (q : Int64) : Int64 := (q &&& (9223372036854775807 : Int64)) - (q &&& (9223372036854775807 : Int64)) / (9223372036854775807 : Int64) * (9223372036854775807 : Int64)
def own_mn (a b : Int64) : Int64 := if b < a then b else a
def own_mx (a b : Int64) : Int64 := if a < b then b else a
def own_len (a b : Int64) : Int64 := ((b - a) + (1 : Int64))
theorem own_pos_bounds (q : Int64) : 0 ≤ (own_pos q).toInt ∧ (own_pos q).toInt < 9223372036854775807 := by
  have h1 : 0 ≤ (q &&& 9223372036854775807).toInt := by
    have : (q &&& 9223372036854775807).toBitVec.msb = false := by
      show (q.toBitVec &&& (9223372036854775807 : Int64).toBitVec).msb = false
      rw [BitVec.msb_and, show ((9223372036854775807 : Int64).toBitVec).msb = false from by decide, Bool.and_false]
    show 0 ≤ (q &&& 9223372036854775807).toBitVec.toInt
    rw [BitVec.toInt_eq_msb_cond, this]
    simp
  generalize hx : (q &&& 9223372036854775807) = x at *
  have h2 := x.toInt_lt
  have e0 : (9223372036854775807 : Int64).toInt = 9223372036854775807 := by decide
  unfold own_pos
  rw [hx]
  by_cases h : x = 9223372036854775807
  · subst h; decide
  · have h3 : x.toInt ≠ 9223372036854775807 := fun q => h (Int64.toInt_inj.mp (by rw [q, e0]))
    have h4 : x / 9223372036854775807 = 0 := by
      apply Int64.toInt_inj.mp
      rw [Int64.toInt_div, e0]
      have : x.toInt.tdiv 9223372036854775807 = 0 := Int.tdiv_eq_zero_of_lt h1 (by omega)
      rw [this]; decide
    rw [h4, Int64.zero_mul, Int64.sub_zero]
    omega
theorem own_len_toInt {a b : Int64} (h0 : 0 ≤ a.toInt) (h1 : a.toInt ≤ b.toInt) (h2 : b.toInt < 9223372036854775807) : (own_len a b).toInt = b.toInt - a.toInt + 1 := by
  unfold own_len
  have e1 : (b - a).toInt = b.toInt - a.toInt := by
    rw [Int64.toInt_sub, Int.bmod_eq_of_le (by omega) (by omega)]
  rw [Int64.toInt_add, e1, show (1 : Int64).toInt = 1 from by decide, Int.bmod_eq_of_le (by omega) (by omega)]
theorem own_mn_toInt (a b : Int64) : (own_mn a b).toInt = min a.toInt b.toInt := by
  unfold own_mn; split <;> rename_i h <;> rw [Int64.lt_iff_toInt_lt] at h <;> omega
theorem own_mx_toInt (a b : Int64) : (own_mx a b).toInt = max a.toInt b.toInt := by
  unfold own_mx; split <;> rename_i h <;> rw [Int64.lt_iff_toInt_lt] at h <;> omega
theorem own_sorted {x y z a lo b hi c d e mid : Int64} (hx : 0 ≤ x.toInt ∧ x.toInt < 9223372036854775807) (hy : 0 ≤ y.toInt ∧ y.toInt < 9223372036854775807) (hz : 0 ≤ z.toInt ∧ z.toInt < 9223372036854775807)
    (ha : a = own_mn y z) (hlo : lo = own_mn x a) (hb : b = own_mx y z) (hhi : hi = own_mx x b) (hc : c = own_mn x y) (hd : d = own_mx x y) (he : e = own_mn d z) (hm : mid = own_mx c e) : 0 ≤ lo.toInt ∧ lo.toInt ≤ mid.toInt ∧ mid.toInt ≤ hi.toInt ∧ hi.toInt < 9223372036854775807 := by
  subst ha hlo hb hhi hc hd he hm
  simp only [own_mn_toInt, own_mx_toInt]
  omega
theorem own_whole {lo mid hi w : Int64} (h : 0 ≤ lo.toInt ∧ lo.toInt ≤ mid.toInt ∧ mid.toInt ≤ hi.toInt ∧ hi.toInt < 9223372036854775807) (hw : w = own_len lo hi) : ¬ (w < (1 : Int64)) := by
  rw [Int64.lt_iff_toInt_lt, hw, own_len_toInt h.1 (by omega) h.2.2.2, show (1 : Int64).toInt = 1 from by decide]; omega
theorem own_one {lo mid hi : Int64} (h : 0 ≤ lo.toInt ∧ lo.toInt ≤ mid.toInt ∧ mid.toInt ≤ hi.toInt ∧ hi.toInt < 9223372036854775807) : own_len mid mid = (1 : Int64) := by
  apply Int64.toInt_inj.mp
  rw [own_len_toInt (by omega) (by omega) (by omega), show (1 : Int64).toInt = 1 from by decide]; omega
theorem own_split {lo m hi : Int64} (h0 : 0 ≤ lo.toInt) (h1 : lo.toInt ≤ m.toInt) (h2 : m < hi) (h3 : hi.toInt < 9223372036854775807) : own_len lo hi = (own_len lo m + own_len (m + (1 : Int64)) hi) := by
  rw [Int64.lt_iff_toInt_lt] at h2
  have e1 : (m + (1 : Int64)).toInt = m.toInt + 1 := by
    rw [Int64.toInt_add, show (1 : Int64).toInt = 1 from by decide, Int.bmod_eq_of_le (by omega) (by omega)]
  apply Int64.toInt_inj.mp
  rw [Int64.toInt_add, own_len_toInt h0 (by omega) h3, own_len_toInt h0 h1 (by omega), own_len_toInt (by omega) (by omega) h3, e1, Int.bmod_eq_of_le (by omega) (by omega)]
  omega
theorem own_d_method_2_0 : decode method_2_code 0 = .ok (.lload_n 0, 1) := by decide +kernel
theorem own_d_method_2_1 : decode method_2_code 1 = .ok (.ldc2_w 9, 3) := by decide +kernel
theorem own_d_method_2_4 : decode method_2_code 4 = .ok (.land, 1) := by decide +kernel
theorem own_d_method_2_5 : decode method_2_code 5 = .ok (.ldc2_w 9, 3) := by decide +kernel
theorem own_d_method_2_8 : decode method_2_code 8 = .ok (.lrem, 1) := by decide +kernel
theorem own_d_method_2_9 : decode method_2_code 9 = .ok (.lreturn, 1) := by decide +kernel
theorem own_pn0 : plainName "com/example/beamhall/beamhall/hub/ByteRangeLengthPinLaw" = true := by first | (simp [plainName, overriddenIn]; done) | decide +kernel
theorem own_ef_pos (m : MethodId) (x0 : Int64) : entryFrame m #[(.long x0)] 2 = mkF m 0 #[.val (.long x0), .second] [] := by first | (simp [entryFrame, mkF, argsToLocals, Value.category]; done) | rfl
def own_Q_pos (Z : State) (q1 : Int64)  (h0 : Heap) (n0 : Nat) (v : Option Value) (h : Heap) (L : List Loc) : Prop := v = some (.long (own_pos q1)) ∧ Fr n0 L ∧ h = h0
set_option maxRecDepth 65536 in
set_option maxHeartbeats 40000000 in
theorem own_rm_pos (l : Launch) (Z : State) (a0 : Array Value) (hw : ∀ d ∈ tables_1, d.before a0 Z = true) (ws : List Jvm.Cond) (q1 : Int64)  (h0 : Heap) (n0 : Nat) (Z0 : n0 ≤ h0.size)  :
    MetFree l (⟨"com/example/beamhall/beamhall/hub/ByteRangeLengthPinLaw", "pos", "(J)J"⟩ : MethodName) (head1 (Jvm.Cond.code (⟨"com/example/beamhall/beamhall/hub/ByteRangeLengthPinLaw", "pos", "(J)J"⟩ : MethodName) method_2_code 2 (some .long) :: ws) ({ frames := 0, cells := 0, slots := 0, locals := 0 } : Room)) (fun a U => a = #[(.long q1)] ∧ Z.Warmed39 U.vm ∧ U.heap = h0) (fun _ _ _ _ _ => True) (fun _ U o U' => ∃ v L, o = .returned v ∧ own_Q_pos Z q1  h0 n0 v U'.heap L ∧ FrameEnd U o U' L ({ frames := 0, cells := 0, slots := 0, locals := 0 } : Room).cells ({ frames := 0, cells := 0, slots := 0, locals := 0 } : Room).slots) := by
  refine MetFree.of_bodySF (plainFor_of_name own_pn0) hisR ?_
  intro p e s m args below meth c s₁ Bd hml0 hP hK
  obtain ⟨rfl, hZ, hh⟩ := hP
  have hx := Bd.exec
  have hby := Bd.bytes
  have hml : c.maxLocals = 2 := hml0
  have hown : s.vm.findClass "com/example/beamhall/beamhall/hub/ByteRangeLengthPinLaw" = some m.cls := findClass_of_methodNamed Bd.named
  have hnm := (name_of_methodNamed Bd.named Bd.method).1
  have X0 : Stand p l e ({ frames := 0, cells := 0, slots := 0, locals := 0 } : Room) s m #[(.long q1)] below meth c s₁ [] 0 0 := Stand.of_body Bd
  have e0 : s₁.heap = h0 := by rw [← hh, Bd.state]; rfl
  have N0 := Fr.nil n0
  have pre0 : ∀ t, Steps p.tables e below (s₁.setTop (mkF m 0 #[.val (.long q1), .second] [])) t → Steps p.tables e below (s₁.setTop (entryFrame m #[(.long q1)] 2)) t := fun t k => castTop (own_ef_pos m q1) k
  obtain ⟨fs, hr, hrun, hended, hW, hsame⟩ := X0.leave (v := some (.long ((q1 &&& (9223372036854775807 : Int64)) - (q1 &&& (9223372036854775807 : Int64)) / (9223372036854775807 : Int64) * (9223372036854775807 : Int64)))) (fun h => by rw [Bd.returns] at h; cases h)
  refine ⟨_, _, pre0 _ ?_, hrun, hended, _, _, rfl, ?_, ⟨_, rfl⟩, hW, hsame.mono (by decide) (by decide)⟩
  · show Steps p.tables e below (s₁.setTop (mkF m 0 #[.val (.long q1), .second] [])) _
    refine XS.lloadN X0.here hx rfl (hb hby own_d_method_2_0) rfl ?_
    show Steps p.tables e below (s₁.setTop (mkF m 1 #[.val (.long q1), .second] [(.long q1)])) _
    refine X0.ldc2Long hx hown (mvT hZ (hw _ (List.mem_of_getElem? (i := 4) rfl))) (g := (mkF m 1 #[.val (.long q1), .second] [(.long q1)])) rfl (hb hby own_d_method_2_1) _ ?_
    show Steps p.tables e below (s₁.setTop (mkF m 4 #[.val (.long q1), .second] [(.long (9223372036854775807 : Int64)), (.long q1)])) _
    refine XS.land X0.here hx rfl (hb hby own_d_method_2_4) rfl ?_
    show Steps p.tables e below (s₁.setTop (mkF m 5 #[.val (.long q1), .second] [(.long (q1 &&& (9223372036854775807 : Int64)))])) _
    refine X0.ldc2Long hx hown (mvT hZ (hw _ (List.mem_of_getElem? (i := 4) rfl))) (g := (mkF m 5 #[.val (.long q1), .second] [(.long (q1 &&& (9223372036854775807 : Int64)))])) rfl (hb hby own_d_method_2_5) _ ?_
    show Steps p.tables e below (s₁.setTop (mkF m 8 #[.val (.long q1), .second] [(.long (9223372036854775807 : Int64)), (.long (q1 &&& (9223372036854775807 : Int64)))])) _
    refine XS.lrem X0.here hx rfl (hb hby own_d_method_2_8) rfl (by decide) ?_
    show Steps p.tables e below (s₁.setTop (mkF m 9 #[.val (.long q1), .second] [(.long ((q1 &&& (9223372036854775807 : Int64)) - (q1 &&& (9223372036854775807 : Int64)) / (9223372036854775807 : Int64) * (9223372036854775807 : Int64)))])) _
    exact X0.lreturnOut hx Bd.returns (hb hby own_d_method_2_9) hr
  · show own_Q_pos Z q1  h0 n0 _ s₁.heap _
    rw [e0]
    exact ⟨rfl, N0, rfl⟩
theorem own_d_jdk_29_method_70_0 : decode jdk_29_method_70_code 0 = .ok (.lload_n 0, 1) := by decide +kernel
theorem own_d_jdk_29_method_70_1 : decode jdk_29_method_70_code 1 = .ok (.lload_n 2, 1) := by decide +kernel
theorem own_d_jdk_29_method_70_2 : decode jdk_29_method_70_code 2 = .ok (.lcmp, 1) := by decide +kernel
theorem own_d_jdk_29_method_70_3 : decode jdk_29_method_70_code 3 = .ok (.ifCond .gt 7, 3) := by decide +kernel
theorem own_d_jdk_29_method_70_10 : decode jdk_29_method_70_code 10 = .ok (.lload_n 2, 1) := by decide +kernel
theorem own_d_jdk_29_method_70_11 : decode jdk_29_method_70_code 11 = .ok (.lreturn, 1) := by decide +kernel
theorem own_d_jdk_29_method_70_6 : decode jdk_29_method_70_code 6 = .ok (.lload_n 0, 1) := by decide +kernel
theorem own_d_jdk_29_method_70_7 : decode jdk_29_method_70_code 7 = .ok (.goto 4, 3) := by decide +kernel
theorem own_ef_min (m : MethodId) (x0 : Int64) (x1 : Int64) : entryFrame m #[(.long x0), (.long x1)] 4 = mkF m 0 #[.val (.long x0), .second, .val (.long x1), .second] [] := by first | (simp [entryFrame, mkF, argsToLocals, Value.category]; done) | rfl
def own_Q_min (Z : State) (q1 : Int64) (q2 : Int64)  (h0 : Heap) (n0 : Nat) (v : Option Value) (h : Heap) (L : List Loc) : Prop := v = some (.long (own_mn q1 q2)) ∧ Fr n0 L ∧ h = h0
set_option maxRecDepth 65536 in
set_option maxHeartbeats 40000000 in
theorem own_rm_min (l : Launch) (Z : State) (a0 : Array Value) (hw : ∀ d ∈ tables_1, d.before a0 Z = true) (ws : List Jvm.Cond) (q1 : Int64) (q2 : Int64)  (h0 : Heap) (n0 : Nat) (Z0 : n0 ≤ h0.size)  :
    MetFree l (⟨"java/lang/Math", "min", "(JJ)J"⟩ : MethodName) (head1 (Jvm.Cond.code (⟨"java/lang/Math", "min", "(JJ)J"⟩ : MethodName) jdk_29_method_70_code 4 (some .long) :: ws) ({ frames := 0, cells := 0, slots := 0, locals := 0 } : Room)) (fun a U => a = #[(.long q1), (.long q2)] ∧ Z.Warmed39 U.vm ∧ U.heap = h0) (fun _ _ _ _ _ => True) (fun _ U o U' => ∃ v L, o = .returned v ∧ own_Q_min Z q1 q2  h0 n0 v U'.heap L ∧ FrameEnd U o U' L ({ frames := 0, cells := 0, slots := 0, locals := 0 } : Room).cells ({ frames := 0, cells := 0, slots := 0, locals := 0 } : Room).slots) := by
  refine MetFree.of_bodySF (Jvm.Free.JP.mathPlain rfl (by decide +kernel)) hisR ?_
  intro p e s m args below meth c s₁ Bd hml0 hP hK
  obtain ⟨rfl, hZ, hh⟩ := hP
  have hx := Bd.exec
  have hby := Bd.bytes
  have hml : c.maxLocals = 4 := hml0
  have hown : s.vm.findClass "java/lang/Math" = some m.cls := findClass_of_methodNamed Bd.named
  have hnm := (name_of_methodNamed Bd.named Bd.method).1
  have X0 : Stand p l e ({ frames := 0, cells := 0, slots := 0, locals := 0 } : Room) s m #[(.long q1), (.long q2)] below meth c s₁ [] 0 0 := Stand.of_body Bd
  have e0 : s₁.heap = h0 := by rw [← hh, Bd.state]; rfl
  have N0 := Fr.nil n0
  have pre0 : ∀ t, Steps p.tables e below (s₁.setTop (mkF m 0 #[.val (.long q1), .second, .val (.long q2), .second] [])) t → Steps p.tables e below (s₁.setTop (entryFrame m #[(.long q1), (.long q2)] 4)) t := fun t k => castTop (own_ef_min m q1 q2) k
  obtain ⟨r0, hr0⟩ : ∃ z : Int64, z = own_mn q1 q2 := ⟨_, rfl⟩
  obtain ⟨fs, hr, hrun, hended, hW, hsame⟩ := X0.leave (v := some (.long r0)) (fun h => by rw [Bd.returns] at h; cases h)
  refine ⟨_, _, pre0 _ ?_, hrun, hended, _, _, rfl, ?_, ⟨_, rfl⟩, hW, hsame.mono (by decide) (by decide)⟩
  · show Steps p.tables e below (s₁.setTop (mkF m 0 #[.val (.long q1), .second, .val (.long q2), .second] [])) _
    refine XS.lloadN X0.here hx rfl (hb hby own_d_jdk_29_method_70_0) rfl ?_
    show Steps p.tables e below (s₁.setTop (mkF m 1 #[.val (.long q1), .second, .val (.long q2), .second] [(.long q1)])) _
    refine XS.lloadN X0.here hx rfl (hb hby own_d_jdk_29_method_70_1) rfl ?_
    show Steps p.tables e below (s₁.setTop (mkF m 2 #[.val (.long q1), .second, .val (.long q2), .second] [(.long q2), (.long q1)])) _
    refine XS.lcmp X0.here hx rfl (hb hby own_d_jdk_29_method_70_2) rfl ?_
    by_cases hc3 : q2 < q1
    · show Steps p.tables e below (s₁.setTop (mkF m 3 #[.val (.long q1), .second, .val (.long q2), .second] [(.int (lcmpW q1 q2))])) _
      refine XS.ifYes X0.here hx rfl (pc0 := 3) (pc' := 10) rfl (hb hby own_d_jdk_29_method_70_3) rfl ((if0 _ _).trans (tlt ((lw_gt _ _).mpr hc3)).2.2.1) (by decide) (by decide) ?_
      show Steps p.tables e below (s₁.setTop (mkF m 10 #[.val (.long q1), .second, .val (.long q2), .second] [])) _
      refine XS.lloadN X0.here hx rfl (hb hby own_d_jdk_29_method_70_10) rfl ?_
      have hv : r0 = q2 := by rw [hr0]; exact if_pos hc3
      rw [hv] at hr
      show Steps p.tables e below (s₁.setTop (mkF m 11 #[.val (.long q1), .second, .val (.long q2), .second] [(.long q2)])) _
      exact X0.lreturnOut hx Bd.returns (hb hby own_d_jdk_29_method_70_11) hr
    · show Steps p.tables e below (s₁.setTop (mkF m 3 #[.val (.long q1), .second, .val (.long q2), .second] [(.int (lcmpW q1 q2))])) _
      refine XS.ifNo X0.here hx rfl (hb hby own_d_jdk_29_method_70_3) rfl ((if0 _ _).trans (flt (fun q => hc3 ((lw_gt _ _).mp q))).2.2.1) ?_
      show Steps p.tables e below (s₁.setTop (mkF m 6 #[.val (.long q1), .second, .val (.long q2), .second] [])) _
      refine XS.lloadN X0.here hx rfl (hb hby own_d_jdk_29_method_70_6) rfl ?_
      show Steps p.tables e below (s₁.setTop (mkF m 7 #[.val (.long q1), .second, .val (.long q2), .second] [(.long q1)])) _
      refine XS.goto X0.here hx rfl (pc0 := 7) (pc' := 11) rfl (hb hby own_d_jdk_29_method_70_7) (by decide) (by decide) ?_
      have hv : r0 = q1 := by rw [hr0]; exact if_neg hc3
      rw [hv] at hr
      show Steps p.tables e below (s₁.setTop (mkF m 11 #[.val (.long q1), .second, .val (.long q2), .second] [(.long q1)])) _
      exact X0.lreturnOut hx Bd.returns (hb hby own_d_jdk_29_method_70_11) hr
  · show own_Q_min Z q1 q2  h0 n0 _ s₁.heap _
    rw [e0]
    exact ⟨(by rw [hr0]), N0, rfl⟩
theorem own_d_jdk_29_method_66_0 : decode jdk_29_method_66_code 0 = .ok (.lload_n 0, 1) := by decide +kernel
theorem own_d_jdk_29_method_66_1 : decode jdk_29_method_66_code 1 = .ok (.lload_n 2, 1) := by decide +kernel
theorem own_d_jdk_29_method_66_2 : decode jdk_29_method_66_code 2 = .ok (.lcmp, 1) := by decide +kernel
theorem own_d_jdk_29_method_66_3 : decode jdk_29_method_66_code 3 = .ok (.ifCond .lt 7, 3) := by decide +kernel
theorem own_d_jdk_29_method_66_10 : decode jdk_29_method_66_code 10 = .ok (.lload_n 2, 1) := by decide +kernel
theorem own_d_jdk_29_method_66_11 : decode jdk_29_method_66_code 11 = .ok (.lreturn, 1) := by decide +kernel
theorem own_d_jdk_29_method_66_6 : decode jdk_29_method_66_code 6 = .ok (.lload_n 0, 1) := by decide +kernel
theorem own_d_jdk_29_method_66_7 : decode jdk_29_method_66_code 7 = .ok (.goto 4, 3) := by decide +kernel
theorem own_ef_max (m : MethodId) (x0 : Int64) (x1 : Int64) : entryFrame m #[(.long x0), (.long x1)] 4 = mkF m 0 #[.val (.long x0), .second, .val (.long x1), .second] [] := by first | (simp [entryFrame, mkF, argsToLocals, Value.category]; done) | rfl
def own_Q_max (Z : State) (q1 : Int64) (q2 : Int64)  (h0 : Heap) (n0 : Nat) (v : Option Value) (h : Heap) (L : List Loc) : Prop := v = some (.long (own_mx q1 q2)) ∧ Fr n0 L ∧ h = h0
set_option maxRecDepth 65536 in
set_option maxHeartbeats 40000000 in
theorem own_rm_max (l : Launch) (Z : State) (a0 : Array Value) (hw : ∀ d ∈ tables_1, d.before a0 Z = true) (ws : List Jvm.Cond) (q1 : Int64) (q2 : Int64)  (h0 : Heap) (n0 : Nat) (Z0 : n0 ≤ h0.size)  :
    MetFree l (⟨"java/lang/Math", "max", "(JJ)J"⟩ : MethodName) (head1 (Jvm.Cond.code (⟨"java/lang/Math", "max", "(JJ)J"⟩ : MethodName) jdk_29_method_66_code 4 (some .long) :: ws) ({ frames := 0, cells := 0, slots := 0, locals := 0 } : Room)) (fun a U => a = #[(.long q1), (.long q2)] ∧ Z.Warmed39 U.vm ∧ U.heap = h0) (fun _ _ _ _ _ => True) (fun _ U o U' => ∃ v L, o = .returned v ∧ own_Q_max Z q1 q2  h0 n0 v U'.heap L ∧ FrameEnd U o U' L ({ frames := 0, cells := 0, slots := 0, locals := 0 } : Room).cells ({ frames := 0, cells := 0, slots := 0, locals := 0 } : Room).slots) := by
  refine MetFree.of_bodySF (Jvm.Free.JP.mathPlain rfl (by decide +kernel)) hisR ?_
  intro p e s m args below meth c s₁ Bd hml0 hP hK
  obtain ⟨rfl, hZ, hh⟩ := hP
  have hx := Bd.exec
  have hby := Bd.bytes
  have hml : c.maxLocals = 4 := hml0
  have hown : s.vm.findClass "java/lang/Math" = some m.cls := findClass_of_methodNamed Bd.named
  have hnm := (name_of_methodNamed Bd.named Bd.method).1
  have X0 : Stand p l e ({ frames := 0, cells := 0, slots := 0, locals := 0 } : Room) s m #[(.long q1), (.long q2)] below meth c s₁ [] 0 0 := Stand.of_body Bd
  have e0 : s₁.heap = h0 := by rw [← hh, Bd.state]; rfl
  have N0 := Fr.nil n0
  have pre0 : ∀ t, Steps p.tables e below (s₁.setTop (mkF m 0 #[.val (.long q1), .second, .val (.long q2), .second] [])) t → Steps p.tables e below (s₁.setTop (entryFrame m #[(.long q1), (.long q2)] 4)) t := fun t k => castTop (own_ef_max m q1 q2) k
  obtain ⟨r0, hr0⟩ : ∃ z : Int64, z = own_mx q1 q2 := ⟨_, rfl⟩
  obtain ⟨fs, hr, hrun, hended, hW, hsame⟩ := X0.leave (v := some (.long r0)) (fun h => by rw [Bd.returns] at h; cases h)
  refine ⟨_, _, pre0 _ ?_, hrun, hended, _, _, rfl, ?_, ⟨_, rfl⟩, hW, hsame.mono (by decide) (by decide)⟩
  · show Steps p.tables e below (s₁.setTop (mkF m 0 #[.val (.long q1), .second, .val (.long q2), .second] [])) _
    refine XS.lloadN X0.here hx rfl (hb hby own_d_jdk_29_method_66_0) rfl ?_
    show Steps p.tables e below (s₁.setTop (mkF m 1 #[.val (.long q1), .second, .val (.long q2), .second] [(.long q1)])) _
    refine XS.lloadN X0.here hx rfl (hb hby own_d_jdk_29_method_66_1) rfl ?_
    show Steps p.tables e below (s₁.setTop (mkF m 2 #[.val (.long q1), .second, .val (.long q2), .second] [(.long q2), (.long q1)])) _
    refine XS.lcmp X0.here hx rfl (hb hby own_d_jdk_29_method_66_2) rfl ?_
    by_cases hc3 : q1 < q2
    · show Steps p.tables e below (s₁.setTop (mkF m 3 #[.val (.long q1), .second, .val (.long q2), .second] [(.int (lcmpW q1 q2))])) _
      refine XS.ifYes X0.here hx rfl (pc0 := 3) (pc' := 10) rfl (hb hby own_d_jdk_29_method_66_3) rfl ((if0 _ _).trans (tlt ((lw_lt _ _).mpr hc3)).1) (by decide) (by decide) ?_
      show Steps p.tables e below (s₁.setTop (mkF m 10 #[.val (.long q1), .second, .val (.long q2), .second] [])) _
      refine XS.lloadN X0.here hx rfl (hb hby own_d_jdk_29_method_66_10) rfl ?_
      have hv : r0 = q2 := by rw [hr0]; exact if_pos hc3
      rw [hv] at hr
      show Steps p.tables e below (s₁.setTop (mkF m 11 #[.val (.long q1), .second, .val (.long q2), .second] [(.long q2)])) _
      exact X0.lreturnOut hx Bd.returns (hb hby own_d_jdk_29_method_66_11) hr
    · show Steps p.tables e below (s₁.setTop (mkF m 3 #[.val (.long q1), .second, .val (.long q2), .second] [(.int (lcmpW q1 q2))])) _
      refine XS.ifNo X0.here hx rfl (hb hby own_d_jdk_29_method_66_3) rfl ((if0 _ _).trans (flt (fun q => hc3 ((lw_lt _ _).mp q))).1) ?_
      show Steps p.tables e below (s₁.setTop (mkF m 6 #[.val (.long q1), .second, .val (.long q2), .second] [])) _
      refine XS.lloadN X0.here hx rfl (hb hby own_d_jdk_29_method_66_6) rfl ?_
      show Steps p.tables e below (s₁.setTop (mkF m 7 #[.val (.long q1), .second, .val (.long q2), .second] [(.long q1)])) _
      refine XS.goto X0.here hx rfl (pc0 := 7) (pc' := 11) rfl (hb hby own_d_jdk_29_method_66_7) (by decide) (by decide) ?_
      have hv : r0 = q1 := by rw [hr0]; exact if_neg hc3
      rw [hv] at hr
      show Steps p.tables e below (s₁.setTop (mkF m 11 #[.val (.long q1), .second, .val (.long q2), .second] [(.long q1)])) _
      exact X0.lreturnOut hx Bd.returns (hb hby own_d_jdk_29_method_66_11) hr
  · show own_Q_max Z q1 q2  h0 n0 _ s₁.heap _
    rw [e0]
    exact ⟨(by rw [hr0]), N0, rfl⟩
theorem own_d_jdk_30_method_1_0 : decode jdk_30_method_1_code 0 = .ok (.aload_n 0, 1) := by decide +kernel
theorem own_d_jdk_30_method_1_1 : decode jdk_30_method_1_code 1 = .ok (.invokespecial 1, 3) := by decide +kernel
theorem own_d_jdk_30_method_1_4 : decode jdk_30_method_1_code 4 = .ok (.return_, 1) := by decide +kernel
theorem own_pn1 : plainName "java/lang/Record" = true := by first | (simp [plainName, overriddenIn]; done) | decide +kernel
theorem own_ef_rec (m : MethodId) (x0 : Addr) : entryFrame m #[(.ref x0)] 1 = mkF m 0 #[.val (.ref x0)] [] := by first | (simp [entryFrame, mkF, argsToLocals, Value.category]; done) | rfl
def own_Q_rec (Z : State) (a1 : Addr)  (h0 : Heap) (n0 : Nat) (v : Option Value) (h : Heap) (L : List Loc) : Prop := v = none ∧ Fr n0 L ∧ h = h0
set_option maxRecDepth 65536 in
set_option maxHeartbeats 40000000 in
theorem own_rm_rec (l : Launch) (Z : State) (a0 : Array Value) (hw : ∀ d ∈ tables_1, d.before a0 Z = true) (ws : List Jvm.Cond) (a1 : Addr)  (h0 : Heap) (n0 : Nat) (Z0 : n0 ≤ h0.size)  :
    MetFree l (⟨"java/lang/Record", "<init>", "()V"⟩ : MethodName) (head1 (Jvm.Cond.code (⟨"java/lang/Record", "<init>", "()V"⟩ : MethodName) jdk_30_method_1_code 1 none :: ws) ({ frames := 1, cells := 0, slots := 0, locals := 12 } : Room)) (fun a U => a = #[(.ref a1)] ∧ Z.Warmed39 U.vm ∧ U.heap = h0) (fun _ _ _ _ _ => True) (fun _ U o U' => ∃ v L, o = .returned v ∧ own_Q_rec Z a1  h0 n0 v U'.heap L ∧ FrameEnd U o U' L ({ frames := 1, cells := 0, slots := 0, locals := 12 } : Room).cells ({ frames := 1, cells := 0, slots := 0, locals := 12 } : Room).slots) := by
  refine MetFree.of_bodySF (plainFor_of_name own_pn1) hisR ?_
  intro p e s m args below meth c s₁ Bd hml0 hP hK
  obtain ⟨rfl, hZ, hh⟩ := hP
  have hx := Bd.exec
  have hby := Bd.bytes
  have hml : c.maxLocals = 1 := hml0
  have hown : s.vm.findClass "java/lang/Record" = some m.cls := findClass_of_methodNamed Bd.named
  have hnm := (name_of_methodNamed Bd.named Bd.method).1
  have X0 : Stand p l e ({ frames := 1, cells := 0, slots := 0, locals := 12 } : Room) s m #[(.ref a1)] below meth c s₁ [] 0 0 := Stand.of_body Bd
  have e0 : s₁.heap = h0 := by rw [← hh, Bd.state]; rfl
  have N0 := Fr.nil n0
  have pre0 : ∀ t, Steps p.tables e below (s₁.setTop (mkF m 0 #[.val (.ref a1)] [])) t → Steps p.tables e below (s₁.setTop (entryFrame m #[(.ref a1)] 1)) t := fun t k => castTop (own_ef_rec m a1) k
  obtain ⟨T1, X1, e1, st1⟩ := initO X0 hx hZ hown (hw _ (List.mem_of_getElem? (i := 23) rfl)) (hw _ (List.mem_of_getElem? (i := 24) rfl)) (hw _ (List.mem_of_getElem? (i := 25) rfl)) e0 (g := (mkF m 1 #[.val (.ref a1)] [(.ref a1)])) rfl (by rw [hml]; rfl) rfl (hb hby own_d_jdk_30_method_1_1) (by decide) (W := 0) (by show 2 * 0 + _ ≤ _; exact Nat.le_of_eq rfl) (by decide)
  obtain ⟨fs, hr, hrun, hended, hW, hsame⟩ := X1.leave (v := none) (fun _ => rfl)
  refine ⟨_, _, pre0 _ ?_, hrun, hended, _, _, rfl, ?_, ⟨_, rfl⟩, hW, hsame.mono (by decide) (by decide)⟩
  · show Steps p.tables e below (s₁.setTop (mkF m 0 #[.val (.ref a1)] [])) _
    refine XS.aloadN X0.here hx rfl (hb hby own_d_jdk_30_method_1_0) rfl rfl ?_
    show Steps p.tables e below (s₁.setTop (mkF m 1 #[.val (.ref a1)] [(.ref a1)])) _
    refine st1 _ ?_
    show Steps p.tables e below (T1.setTop (mkF m 4 #[.val (.ref a1)] [])) _
    exact X1.returnOut hx Bd.returns (hb hby own_d_jdk_30_method_1_4) hr
  · show own_Q_rec Z a1  h0 n0 _ T1.heap _
    rw [e1]
    exact ⟨rfl, N0, rfl⟩
theorem own_d_prog_48_method_1_0 : decode prog_48_method_1_code 0 = .ok (.aload_n 0, 1) := by decide +kernel
theorem own_d_prog_48_method_1_1 : decode prog_48_method_1_code 1 = .ok (.invokespecial 1, 3) := by decide +kernel
theorem own_pd0 : parseMethodDescriptor "()V" = some ⟨[], none⟩ := by decide +kernel
theorem own_d_prog_48_method_1_4 : decode prog_48_method_1_code 4 = .ok (.aload_n 0, 1) := by decide +kernel
theorem own_d_prog_48_method_1_5 : decode prog_48_method_1_code 5 = .ok (.lload_n 1, 1) := by decide +kernel
theorem own_d_prog_48_method_1_6 : decode prog_48_method_1_code 6 = .ok (.putfield 7, 3) := by decide +kernel
theorem own_d_prog_48_method_1_9 : decode prog_48_method_1_code 9 = .ok (.aload_n 0, 1) := by decide +kernel
theorem own_d_prog_48_method_1_10 : decode prog_48_method_1_code 10 = .ok (.lload_n 3, 1) := by decide +kernel
theorem own_d_prog_48_method_1_11 : decode prog_48_method_1_code 11 = .ok (.putfield 13, 3) := by decide +kernel
theorem own_d_prog_48_method_1_14 : decode prog_48_method_1_code 14 = .ok (.return_, 1) := by decide +kernel
theorem own_pn2 : plainName "com/example/beamhall/beamhall/hub/ByteRange" = true := by first | (simp [plainName, overriddenIn]; done) | decide +kernel
theorem own_ef_init (m : MethodId) (x0 : Addr) (x1 : Int64) (x2 : Int64) : entryFrame m #[(.ref x0), (.long x1), (.long x2)] 5 = mkF m 0 #[.val (.ref x0), .val (.long x1), .second, .val (.long x2), .second] [] := by first | (simp [entryFrame, mkF, argsToLocals, Value.category]; done) | rfl
def own_Q_init (Z : State) (a1 : Addr) (q1 : Int64) (q2 : Int64)  (h0 : Heap) (n0 : Nat) (v : Option Value) (h : Heap) (L : List Loc) : Prop := v = none ∧ Fr n0 L ∧ Exa Z h a1 "com/example/beamhall/beamhall/hub/ByteRange" ∧ Fld Z h a1 "com/example/beamhall/beamhall/hub/ByteRange" "first" "J" (.long q1) ∧ Fld Z h a1 "com/example/beamhall/beamhall/hub/ByteRange" "last" "J" (.long q2) ∧ n0 ≤ h.size
set_option maxRecDepth 65536 in
set_option maxHeartbeats 40000000 in
theorem own_rm_init (l : Launch) (Z : State) (a0 : Array Value) (hw : ∀ d ∈ tables_1, d.before a0 Z = true) (ws : List Jvm.Cond) (a1 : Addr) (q1 : Int64) (q2 : Int64)  (h0 : Heap) (n0 : Nat) (Z0 : n0 ≤ h0.size) (E0 : Exa Z h0 a1 "com/example/beamhall/beamhall/hub/ByteRange") (F0f : Fld Z h0 a1 "com/example/beamhall/beamhall/hub/ByteRange" "first" "J" (.long (0 : Int64))) (F0l : Fld Z h0 a1 "com/example/beamhall/beamhall/hub/ByteRange" "last" "J" (.long (0 : Int64))) (g0 : n0 ≤ a1) :
    MetFree l (⟨"com/example/beamhall/beamhall/hub/ByteRange", "<init>", "(JJ)V"⟩ : MethodName) (head1 (Jvm.Cond.code (⟨"com/example/beamhall/beamhall/hub/ByteRange", "<init>", "(JJ)V"⟩ : MethodName) prog_48_method_1_code 5 none :: ws) ({ frames := 2, cells := 0, slots := 0, locals := 24 } : Room)) (fun a U => a = #[(.ref a1), (.long q1), (.long q2)] ∧ Z.Warmed39 U.vm ∧ U.heap = h0) (fun _ _ _ _ _ => True) (fun _ U o U' => ∃ v L, o = .returned v ∧ own_Q_init Z a1 q1 q2  h0 n0 v U'.heap L ∧ FrameEnd U o U' L ({ frames := 2, cells := 0, slots := 0, locals := 24 } : Room).cells ({ frames := 2, cells := 0, slots := 0, locals := 24 } : Room).slots) := by
  refine MetFree.of_bodySF (plainFor_of_name own_pn2) hisR ?_
  intro p e s m args below meth c s₁ Bd hml0 hP hK
  obtain ⟨rfl, hZ, hh⟩ := hP
  have hx := Bd.exec
  have hby := Bd.bytes
  have hml : c.maxLocals = 5 := hml0
  have hown : s.vm.findClass "com/example/beamhall/beamhall/hub/ByteRange" = some m.cls := findClass_of_methodNamed Bd.named
  have hnm := (name_of_methodNamed Bd.named Bd.method).1
  have X0 : Stand p l e ({ frames := 2, cells := 0, slots := 0, locals := 24 } : Room) s m #[(.ref a1), (.long q1), (.long q2)] below meth c s₁ [] 0 0 := Stand.of_body Bd
  have e0 : s₁.heap = h0 := by rw [← hh, Bd.state]; rfl
  have N0 := Fr.nil n0
  have pre0 : ∀ t, Steps p.tables e below (s₁.setTop (mkF m 0 #[.val (.ref a1), .val (.long q1), .second, .val (.long q2), .second] [])) t → Steps p.tables e below (s₁.setTop (entryFrame m #[(.ref a1), (.long q1), (.long q2)] 5)) t := fun t k => castTop (own_ef_init m a1 q1 q2) k
  obtain ⟨_, _, ⟨T1, L1, k1, n1⟩, -, X1, ⟨Lc1, hQ1, l1, y1, z1⟩, st1⟩ := X0.specialBack hx (y := (⟨"java/lang/Record", "<init>", "()V"⟩ : MethodName)) rfl hown (mvT hZ (hw _ (List.mem_of_getElem? (i := 18) rfl))) (mvT hZ (hw _ (List.mem_of_getElem? (i := 19) rfl))) (mvT hZ (hw _ (List.mem_of_getElem? (i := 22) rfl))) (by decide) (backOf (W := 0) (own_rm_rec l Z a0 hw [] a1 h0 n0 Z0) hZ (hw _ (List.mem_of_getElem? (i := 22) rfl)) (hw _ (List.mem_of_getElem? (i := 21) rfl)) (by decide) (by decide)) (g := (mkF m 1 #[.val (.ref a1), .val (.long q1), .second, .val (.long q2), .second] [(.ref a1)])) rfl (by rw [hml]; rfl) (Steps.refl _) (a := a1) (argsL := []) (rest := []) (lenOf own_pd0 rfl) rfl (by show 2 * 0 + _ ≤ _; exact Nat.le_of_eq rfl) (hb hby own_d_prog_48_method_1_1) (fun _ _ => ⟨rfl, e0, (by decide : 0 + 0 ≤ _), (by decide : 0 + 0 ≤ _)⟩)
  dsimp only [Pt.U, Pt.locs, Pt.cells, Pt.slots] at X1 l1 y1 z1 st1 hQ1
  subst l1 y1 z1
  obtain ⟨rfl, N1q, e1q⟩ := hQ1
  have N1 := Fr.app N0 N1q
  have E1_a1 : Exa Z T1.heap a1 "com/example/beamhall/beamhall/hub/ByteRange" := by rw [e1q]; exact E0
  have Fs1_a1_first : Fld Z T1.heap a1 "com/example/beamhall/beamhall/hub/ByteRange" "first" "J" (.long (0 : Int64)) := by rw [e1q]; exact F0f
  have Fs1_a1_last : Fld Z T1.heap a1 "com/example/beamhall/beamhall/hub/ByteRange" "last" "J" (.long (0 : Int64)) := by rw [e1q]; exact F0l
  have Z1 : n0 ≤ T1.heap.size := by rw [e1q]; exact Z0
  obtain ⟨T2, h2, X2, e2, W2, st2⟩ := putF X1 hx hZ hown (host := "") (Or.inl (hw _ (List.mem_of_getElem? (i := 26) rfl))) Via.refl rfl Fs1_a1_first E1_a1 (Or.inr ⟨(hw _ (List.mem_of_getElem? (i := 27) rfl)), rfl, hnm⟩) (hw _ (List.mem_of_getElem? (i := 13) rfl)) (ty := .long) (by decide) rfl rfl (g := (mkF m 6 #[.val (.ref a1), .val (.long q1), .second, .val (.long q2), .second] [(.long q1), (.ref a1)])) rfl rfl (hb hby own_d_prog_48_method_1_6)
  have E2_a1 := E1_a1.wr W2
  have Fw2_a1_first := Fs1_a1_first.same W2
  have Fw2_a1_last := Fs1_a1_last.other W2 (Or.inr (slot_ne (Or.inr (hw _ (List.mem_of_getElem? (i := 29) rfl))) (Or.inr (hw _ (List.mem_of_getElem? (i := 27) rfl))) (by decide) (t := .long) (t' := .long) (by decide) (by decide)))
  have N2 := Fr.snoc X2 N1 g0
  have Z2 := Nat.le_trans Z1 (Keep.of_wr W2).1
  obtain ⟨T3, h3, X3, e3, W3, st3⟩ := putF X2 hx hZ hown (host := "") (Or.inl (hw _ (List.mem_of_getElem? (i := 28) rfl))) Via.refl e2 Fw2_a1_last E2_a1 (Or.inr ⟨(hw _ (List.mem_of_getElem? (i := 29) rfl)), rfl, hnm⟩) (hw _ (List.mem_of_getElem? (i := 13) rfl)) (ty := .long) (by decide) rfl rfl (g := (mkF m 11 #[.val (.ref a1), .val (.long q1), .second, .val (.long q2), .second] [(.long q2), (.ref a1)])) rfl rfl (hb hby own_d_prog_48_method_1_11)
  have E3_a1 := E2_a1.wr W3
  have Fw3_a1_first := Fw2_a1_first.other W3 (Or.inr (slot_ne (Or.inr (hw _ (List.mem_of_getElem? (i := 27) rfl))) (Or.inr (hw _ (List.mem_of_getElem? (i := 29) rfl))) (by decide) (t := .long) (t' := .long) (by decide) (by decide)))
  have Fw3_a1_last := Fw2_a1_last.same W3
  have N3 := Fr.snoc X3 N2 g0
  have Z3 := Nat.le_trans Z2 (Keep.of_wr W3).1
  obtain ⟨fs, hr, hrun, hended, hW, hsame⟩ := X3.leave (v := none) (fun _ => rfl)
  refine ⟨_, _, pre0 _ ?_, hrun, hended, _, _, rfl, ?_, ⟨_, rfl⟩, hW, hsame.mono (by decide) (by decide)⟩
  · show Steps p.tables e below (s₁.setTop (mkF m 0 #[.val (.ref a1), .val (.long q1), .second, .val (.long q2), .second] [])) _
    refine XS.aloadN X0.here hx rfl (hb hby own_d_prog_48_method_1_0) rfl rfl ?_
    show Steps p.tables e below (s₁.setTop (mkF m 1 #[.val (.ref a1), .val (.long q1), .second, .val (.long q2), .second] [(.ref a1)])) _
    refine st1.trans ?_
    show Steps p.tables e below (T1.setTop (mkF m 4 #[.val (.ref a1), .val (.long q1), .second, .val (.long q2), .second] [])) _
    refine XS.aloadN X1.here hx rfl (hb hby own_d_prog_48_method_1_4) rfl rfl ?_
    show Steps p.tables e below (T1.setTop (mkF m 5 #[.val (.ref a1), .val (.long q1), .second, .val (.long q2), .second] [(.ref a1)])) _
    refine XS.lloadN X1.here hx rfl (hb hby own_d_prog_48_method_1_5) rfl ?_
    show Steps p.tables e below (T1.setTop (mkF m 6 #[.val (.ref a1), .val (.long q1), .second, .val (.long q2), .second] [(.long q1), (.ref a1)])) _
    refine st2 _ ?_
    show Steps p.tables e below (T2.setTop (mkF m 9 #[.val (.ref a1), .val (.long q1), .second, .val (.long q2), .second] [])) _
    refine XS.aloadN X2.here hx rfl (hb hby own_d_prog_48_method_1_9) rfl rfl ?_
    show Steps p.tables e below (T2.setTop (mkF m 10 #[.val (.ref a1), .val (.long q1), .second, .val (.long q2), .second] [(.ref a1)])) _
    refine XS.lloadN X2.here hx rfl (hb hby own_d_prog_48_method_1_10) rfl ?_
    show Steps p.tables e below (T2.setTop (mkF m 11 #[.val (.ref a1), .val (.long q1), .second, .val (.long q2), .second] [(.long q2), (.ref a1)])) _
    refine st3 _ ?_
    show Steps p.tables e below (T3.setTop (mkF m 14 #[.val (.ref a1), .val (.long q1), .second, .val (.long q2), .second] [])) _
    exact X3.returnOut hx Bd.returns (hb hby own_d_prog_48_method_1_14) hr
  · show own_Q_init Z a1 q1 q2  h0 n0 _ T3.heap _
    rw [e3]
    exact ⟨rfl, N3, E3_a1, Fw3_a1_first, Fw3_a1_last, Z3⟩
theorem own_d_prog_48_method_2_0 : decode prog_48_method_2_code 0 = .ok (.aload_n 0, 1) := by decide +kernel
theorem own_d_prog_48_method_2_1 : decode prog_48_method_2_code 1 = .ok (.getfield 13, 3) := by decide +kernel
theorem own_d_prog_48_method_2_4 : decode prog_48_method_2_code 4 = .ok (.aload_n 0, 1) := by decide +kernel
theorem own_d_prog_48_method_2_5 : decode prog_48_method_2_code 5 = .ok (.getfield 7, 3) := by decide +kernel
theorem own_d_prog_48_method_2_8 : decode prog_48_method_2_code 8 = .ok (.lsub, 1) := by decide +kernel
theorem own_d_prog_48_method_2_9 : decode prog_48_method_2_code 9 = .ok (.lconst 1, 1) := by decide +kernel
theorem own_d_prog_48_method_2_10 : decode prog_48_method_2_code 10 = .ok (.ladd, 1) := by decide +kernel
theorem own_d_prog_48_method_2_11 : decode prog_48_method_2_code 11 = .ok (.lreturn, 1) := by decide +kernel
theorem own_ef_len (m : MethodId) (x0 : Addr) : entryFrame m #[(.ref x0)] 1 = mkF m 0 #[.val (.ref x0)] [] := by first | (simp [entryFrame, mkF, argsToLocals, Value.category]; done) | rfl
def own_Q_len (Z : State) (a1 : Addr) (q1 q2 : Int64) (h0 : Heap) (n0 : Nat) (v : Option Value) (h : Heap) (L : List Loc) : Prop := v = some (.long (own_len q1 q2)) ∧ Fr n0 L ∧ h = h0
set_option maxRecDepth 65536 in
set_option maxHeartbeats 40000000 in
theorem own_rm_len (l : Launch) (Z : State) (a0 : Array Value) (hw : ∀ d ∈ tables_1, d.before a0 Z = true) (ws : List Jvm.Cond) (a1 : Addr) (q1 q2 : Int64) (h0 : Heap) (n0 : Nat) (Z0 : n0 ≤ h0.size) (F0f : Fld Z h0 a1 "com/example/beamhall/beamhall/hub/ByteRange" "first" "J" (.long q1)) (F0l : Fld Z h0 a1 "com/example/beamhall/beamhall/hub/ByteRange" "last" "J" (.long q2)) :
    MetFree l (⟨"com/example/beamhall/beamhall/hub/ByteRange", "length", "()J"⟩ : MethodName) (head1 (Jvm.Cond.code (⟨"com/example/beamhall/beamhall/hub/ByteRange", "length", "()J"⟩ : MethodName) prog_48_method_2_code 1 (some .long) :: ws) ({ frames := 0, cells := 0, slots := 0, locals := 0 } : Room)) (fun a U => a = #[(.ref a1)] ∧ Z.Warmed39 U.vm ∧ U.heap = h0) (fun _ _ _ _ _ => True) (fun _ U o U' => ∃ v L, o = .returned v ∧ own_Q_len Z a1 q1 q2 h0 n0 v U'.heap L ∧ FrameEnd U o U' L ({ frames := 0, cells := 0, slots := 0, locals := 0 } : Room).cells ({ frames := 0, cells := 0, slots := 0, locals := 0 } : Room).slots) := by
  refine MetFree.of_bodySF (plainFor_of_name own_pn2) hisR ?_
  intro p e s m args below meth c s₁ Bd hml0 hP hK
  obtain ⟨rfl, hZ, hh⟩ := hP
  have hx := Bd.exec
  have hby := Bd.bytes
  have hml : c.maxLocals = 1 := hml0
  have hown : s.vm.findClass "com/example/beamhall/beamhall/hub/ByteRange" = some m.cls := findClass_of_methodNamed Bd.named
  have hnm := (name_of_methodNamed Bd.named Bd.method).1
  have X0 : Stand p l e ({ frames := 0, cells := 0, slots := 0, locals := 0 } : Room) s m #[(.ref a1)] below meth c s₁ [] 0 0 := Stand.of_body Bd
  have e0 : s₁.heap = h0 := by rw [← hh, Bd.state]; rfl
  have N0 := Fr.nil n0
  have pre0 : ∀ t, Steps p.tables e below (s₁.setTop (mkF m 0 #[.val (.ref a1)] [])) t → Steps p.tables e below (s₁.setTop (entryFrame m #[(.ref a1)] 1)) t := fun t k => castTop (own_ef_len m a1) k
  obtain ⟨T1, X1, e1, st1⟩ := getF X0 hx hZ hown (host := "") (Or.inl (hw _ (List.mem_of_getElem? (i := 28) rfl))) Via.refl e0 F0l (g := (mkF m 1 #[.val (.ref a1)] [(.ref a1)])) rfl rfl (hb hby own_d_prog_48_method_2_1)
  obtain ⟨T2, X2, e2, st2⟩ := getF X1 hx hZ hown (host := "") (Or.inl (hw _ (List.mem_of_getElem? (i := 26) rfl))) Via.refl e1 F0f (g := (mkF m 5 #[.val (.ref a1)] [(.ref a1), (.long q2)])) rfl rfl (hb hby own_d_prog_48_method_2_5)
  obtain ⟨fs, hr, hrun, hended, hW, hsame⟩ := X2.leave (v := some (.long ((q2 - q1) + (1 : Int64)))) (fun h => by rw [Bd.returns] at h; cases h)
  refine ⟨_, _, pre0 _ ?_, hrun, hended, _, _, rfl, ?_, ⟨_, rfl⟩, hW, hsame.mono (by decide) (by decide)⟩
  · show Steps p.tables e below (s₁.setTop (mkF m 0 #[.val (.ref a1)] [])) _
    refine XS.aloadN X0.here hx rfl (hb hby own_d_prog_48_method_2_0) rfl rfl ?_
    show Steps p.tables e below (s₁.setTop (mkF m 1 #[.val (.ref a1)] [(.ref a1)])) _
    refine st1 _ ?_
    show Steps p.tables e below (T1.setTop (mkF m 4 #[.val (.ref a1)] [(.long q2)])) _
    refine XS.aloadN X1.here hx rfl (hb hby own_d_prog_48_method_2_4) rfl rfl ?_
    show Steps p.tables e below (T1.setTop (mkF m 5 #[.val (.ref a1)] [(.ref a1), (.long q2)])) _
    refine st2 _ ?_
    show Steps p.tables e below (T2.setTop (mkF m 8 #[.val (.ref a1)] [(.long q1), (.long q2)])) _
    refine XS.lsub X2.here hx rfl (hb hby own_d_prog_48_method_2_8) rfl ?_
    show Steps p.tables e below (T2.setTop (mkF m 9 #[.val (.ref a1)] [(.long (q2 - q1))])) _
    refine XS.lconst X2.here hx rfl (hb hby own_d_prog_48_method_2_9) ?_
    show Steps p.tables e below (T2.setTop (mkF m 10 #[.val (.ref a1)] [(.long (1 : Int64)), (.long (q2 - q1))])) _
    refine XS.ladd X2.here hx rfl (hb hby own_d_prog_48_method_2_10) rfl ?_
    show Steps p.tables e below (T2.setTop (mkF m 11 #[.val (.ref a1)] [(.long ((q2 - q1) + (1 : Int64)))])) _
    exact X2.lreturnOut hx Bd.returns (hb hby own_d_prog_48_method_2_11) hr
  · show own_Q_len Z a1 q1 q2 h0 n0 _ T2.heap _
    rw [e2]
    exact ⟨rfl, N0, rfl⟩
theorem own_pd1 : parseMethodDescriptor "(J)J" = some ⟨[.long], some .long⟩ := by decide +kernel
theorem own_pd2 : parseMethodDescriptor "(JJ)J" = some ⟨[.long, .long], some .long⟩ := by decide +kernel
theorem own_pd3 : parseMethodDescriptor "(JJ)V" = some ⟨[.long, .long], none⟩ := by decide +kernel
theorem own_pd4 : parseMethodDescriptor "()J" = some ⟨[], some .long⟩ := by decide +kernel
theorem own_ef_law (m : MethodId) (x0 : Int64) (x1 : Int64) (x2 : Int64) : entryFrame m #[(.long x0), (.long x1), (.long x2)] maxLocals = mkF m 0 #[.val (.long x0), .second, .val (.long x1), .second, .val (.long x2), .second, .unset, .unset, .unset, .unset, .unset, .unset, .unset, .unset, .unset, .unset, .unset, .unset, .unset, .unset, .unset] [] := by first | (simp [entryFrame, mkF, argsToLocals, Value.category, maxLocals]; done) | rfl
def own_Q_law (Z : State) (q1 : Int64) (q2 : Int64) (q3 : Int64)  (h0 : Heap) (n0 : Nat) (v : Option Value) (h : Heap) (L : List Loc) : Prop := v = some (.int (1 : Int32)) ∧ Fr n0 L
set_option maxRecDepth 65536 in
set_option maxHeartbeats 40000000 in
theorem own_rm_law_a (l : Launch) (Z : State) (a0 : Array Value) (hw : ∀ d ∈ tables_1, d.before a0 Z = true) (ws : List Jvm.Cond) (q1 : Int64) (q2 : Int64) (q3 : Int64)  (h0 : Heap) (n0 : Nat) (Z0 : n0 ≤ h0.size) (hp : (own_mx (own_mn (own_pos q1) (own_pos q2)) (own_mn (own_mx (own_pos q1) (own_pos q2)) (own_pos q3))) < (own_mx (own_pos q1) (own_mx (own_pos q2) (own_pos q3)))) :
    MetFree l x (head1 (Jvm.Cond.code x code maxLocals ret :: ws) room_1) (fun a U => a = #[(.long q1), (.long q2), (.long q3)] ∧ Z.Warmed39 U.vm ∧ U.heap = h0) (fun _ _ _ _ _ => True) (fun _ U o U' => ∃ v L, o = .returned v ∧ own_Q_law Z q1 q2 q3  h0 n0 v U'.heap L ∧ FrameEnd U o U' L room_1.cells room_1.slots) := by
  refine MetFree.of_bodySF (plainFor_of_name own_pn0) hisR ?_
  intro p e s m args below meth c s₁ Bd hml0 hP hK
  obtain ⟨rfl, hZ, hh⟩ := hP
  have hx := Bd.exec
  have hby := Bd.bytes
  have hml : c.maxLocals = 21 := hml0
  have hown : s.vm.findClass "com/example/beamhall/beamhall/hub/ByteRangeLengthPinLaw" = some m.cls := findClass_of_methodNamed Bd.named
  have hnm := (name_of_methodNamed Bd.named Bd.method).1
  have X0 : Stand p l e room_1 s m #[(.long q1), (.long q2), (.long q3)] below meth c s₁ [] 0 0 := Stand.of_body Bd
  have e0 : s₁.heap = h0 := by rw [← hh, Bd.state]; rfl
  have N0 := Fr.nil n0
  have pre0 : ∀ t, Steps p.tables e below (s₁.setTop (mkF m 0 #[.val (.long q1), .second, .val (.long q2), .second, .val (.long q3), .second, .unset, .unset, .unset, .unset, .unset, .unset, .unset, .unset, .unset, .unset, .unset, .unset, .unset, .unset, .unset] [])) t → Steps p.tables e below (s₁.setTop (entryFrame m #[(.long q1), (.long q2), (.long q3)] maxLocals)) t := fun t k => castTop (own_ef_law m q1 q2 q3) k
  obtain ⟨_, _, ⟨T1, L1, k1, n1⟩, -, X1, ⟨Lc1, hQ1, l1, y1, z1⟩, st1⟩ := Jvm.LawKit.callS X0 hx (y := (⟨"com/example/beamhall/beamhall/hub/ByteRangeLengthPinLaw", "pos", "(J)J"⟩ : MethodName)) hown (mvT hZ (hw _ (List.mem_of_getElem? (i := 0) rfl))) (mvT hZ (hw _ (List.mem_of_getElem? (i := 1) rfl))) (mvT hZ (hw _ (List.mem_of_getElem? (i := 2) rfl))) (mvT hZ (hw _ (List.mem_of_getElem? (i := 3) rfl))) (by decide) (backOf (W := 0) (own_rm_pos l Z a0 hw [] q1 h0 n0 Z0) hZ (hw _ (List.mem_of_getElem? (i := 3) rfl)) (hw _ (List.mem_of_getElem? (i := 2) rfl)) (by decide) (by decide)) (g := (mkF m 1 #[.val (.long q1), .second, .val (.long q2), .second, .val (.long q3), .second, .unset, .unset, .unset, .unset, .unset, .unset, .unset, .unset, .unset, .unset, .unset, .unset, .unset, .unset, .unset] [(.long q1)])) rfl (by rw [hml]; rfl) (argsL := [(.long q1)]) (rest := []) (lenOf own_pd1 rfl) rfl (by show 2 * 0 + _ ≤ _; exact Nat.le_of_eq rfl) (hb hby at_1) (fun _ _ => ⟨rfl, e0, (by decide : 0 + 0 ≤ _), (by decide : 0 + 0 ≤ _)⟩)
  dsimp only [Pt.U, Pt.locs, Pt.cells, Pt.slots] at X1 l1 y1 z1 st1 hQ1
  subst l1 y1 z1
  obtain ⟨rfl, N1q, e1q⟩ := hQ1
  have N1 := Fr.app N0 N1q
  have Z1 : n0 ≤ T1.heap.size := by rw [e1q]; exact Z0
  obtain ⟨u2, hu2⟩ : ∃ z : Int64, z = (own_pos q1) := ⟨_, rfl⟩
  rw [← hu2] at st1
  obtain ⟨_, _, ⟨T3, L3, k3, n3⟩, -, X3, ⟨Lc3, hQ3, l3, y3, z3⟩, st3⟩ := Jvm.LawKit.callS X1 hx (y := (⟨"com/example/beamhall/beamhall/hub/ByteRangeLengthPinLaw", "pos", "(J)J"⟩ : MethodName)) hown (mvT hZ (hw _ (List.mem_of_getElem? (i := 0) rfl))) (mvT hZ (hw _ (List.mem_of_getElem? (i := 1) rfl))) (mvT hZ (hw _ (List.mem_of_getElem? (i := 2) rfl))) (mvT hZ (hw _ (List.mem_of_getElem? (i := 3) rfl))) (by decide) (backOf (W := 0) (own_rm_pos l Z a0 hw [] q2 T1.heap n0 Z1) hZ (hw _ (List.mem_of_getElem? (i := 3) rfl)) (hw _ (List.mem_of_getElem? (i := 2) rfl)) (by decide) (by decide)) (g := (mkF m 7 #[.val (.long q1), .second, .val (.long q2), .second, .val (.long q3), .second, .val (.long u2), .second, .unset, .unset, .unset, .unset, .unset, .unset, .unset, .unset, .unset, .unset, .unset, .unset, .unset] [(.long q2)])) rfl (by rw [hml]; rfl) (argsL := [(.long q2)]) (rest := []) (lenOf own_pd1 rfl) rfl (by show 2 * 0 + _ ≤ _; exact Nat.le_of_eq rfl) (hb hby at_7) (fun _ _ => ⟨rfl, rfl, (by decide : 0 + 0 ≤ _), (by decide : 0 + 0 ≤ _)⟩)
  dsimp only [Pt.U, Pt.locs, Pt.cells, Pt.slots] at X3 l3 y3 z3 st3 hQ3
  subst l3 y3 z3
  obtain ⟨rfl, N3q, e3q⟩ := hQ3
  have N3 := Fr.app N1 N3q
  have Z3 : n0 ≤ T3.heap.size := by rw [e3q]; exact Z1
  obtain ⟨u4, hu4⟩ : ∃ z : Int64, z = (own_pos q2) := ⟨_, rfl⟩
  rw [← hu4] at st3
  obtain ⟨_, _, ⟨T5, L5, k5, n5⟩, -, X5, ⟨Lc5, hQ5, l5, y5, z5⟩, st5⟩ := Jvm.LawKit.callS X3 hx (y := (⟨"com/example/beamhall/beamhall/hub/ByteRangeLengthPinLaw", "pos", "(J)J"⟩ : MethodName)) hown (mvT hZ (hw _ (List.mem_of_getElem? (i := 0) rfl))) (mvT hZ (hw _ (List.mem_of_getElem? (i := 1) rfl))) (mvT hZ (hw _ (List.mem_of_getElem? (i := 2) rfl))) (mvT hZ (hw _ (List.mem_of_getElem? (i := 3) rfl))) (by decide) (backOf (W := 0) (own_rm_pos l Z a0 hw [] q3 T3.heap n0 Z3) hZ (hw _ (List.mem_of_getElem? (i := 3) rfl)) (hw _ (List.mem_of_getElem? (i := 2) rfl)) (by decide) (by decide)) (g := (mkF m 14 #[.val (.long q1), .second, .val (.long q2), .second, .val (.long q3), .second, .val (.long u2), .second, .val (.long u4), .second, .unset, .unset, .unset, .unset, .unset, .unset, .unset, .unset, .unset, .unset, .unset] [(.long q3)])) rfl (by rw [hml]; rfl) (argsL := [(.long q3)]) (rest := []) (lenOf own_pd1 rfl) rfl (by show 2 * 0 + _ ≤ _; exact Nat.le_of_eq rfl) (hb hby at_14) (fun _ _ => ⟨rfl, rfl, (by decide : 0 + 0 ≤ _), (by decide : 0 + 0 ≤ _)⟩)
  dsimp only [Pt.U, Pt.locs, Pt.cells, Pt.slots] at X5 l5 y5 z5 st5 hQ5
  subst l5 y5 z5
  obtain ⟨rfl, N5q, e5q⟩ := hQ5
  have N5 := Fr.app N3 N5q
  have Z5 : n0 ≤ T5.heap.size := by rw [e5q]; exact Z3
  obtain ⟨u6, hu6⟩ : ∃ z : Int64, z = (own_pos q3) := ⟨_, rfl⟩
  rw [← hu6] at st5
  obtain ⟨_, _, ⟨T7, L7, k7, n7⟩, -, X7, ⟨Lc7, hQ7, l7, y7, z7⟩, st7⟩ := Jvm.LawKit.callS X5 hx (y := (⟨"java/lang/Math", "min", "(JJ)J"⟩ : MethodName)) hown (mvT hZ (hw _ (List.mem_of_getElem? (i := 5) rfl))) (mvT hZ (hw _ (List.mem_of_getElem? (i := 6) rfl))) (mvT hZ (hw _ (List.mem_of_getElem? (i := 7) rfl))) (mvT hZ (hw _ (List.mem_of_getElem? (i := 8) rfl))) (by decide) (backOf (W := 2) (own_rm_min l Z a0 hw [] u4 u6 T5.heap n0 Z5) hZ (hw _ (List.mem_of_getElem? (i := 8) rfl)) (hw _ (List.mem_of_getElem? (i := 7) rfl)) (by decide) (by decide)) (g := (mkF m 25 #[.val (.long q1), .second, .val (.long q2), .second, .val (.long q3), .second, .val (.long u2), .second, .val (.long u4), .second, .val (.long u6), .second, .unset, .unset, .unset, .unset, .unset, .unset, .unset, .unset, .unset] [(.long u6), (.long u4), (.long u2)])) rfl (by rw [hml]; rfl) (argsL := [(.long u4), (.long u6)]) (rest := [(.long u2)]) (lenOf own_pd2 rfl) rfl (by show 2 * 0 + _ ≤ _; exact Nat.le_of_eq rfl) (hb hby at_25) (fun _ _ => ⟨rfl, rfl, (by decide : 0 + 0 ≤ _), (by decide : 0 + 0 ≤ _)⟩)
  dsimp only [Pt.U, Pt.locs, Pt.cells, Pt.slots] at X7 l7 y7 z7 st7 hQ7
  subst l7 y7 z7
  obtain ⟨rfl, N7q, e7q⟩ := hQ7
  have N7 := Fr.app N5 N7q
  have Z7 : n0 ≤ T7.heap.size := by rw [e7q]; exact Z5
  obtain ⟨u8, hu8⟩ : ∃ z : Int64, z = (own_mn u4 u6) := ⟨_, rfl⟩
  rw [← hu8] at st7
  obtain ⟨_, _, ⟨T9, L9, k9, n9⟩, -, X9, ⟨Lc9, hQ9, l9, y9, z9⟩, st9⟩ := Jvm.LawKit.callS X7 hx (y := (⟨"java/lang/Math", "min", "(JJ)J"⟩ : MethodName)) hown (mvT hZ (hw _ (List.mem_of_getElem? (i := 5) rfl))) (mvT hZ (hw _ (List.mem_of_getElem? (i := 6) rfl))) (mvT hZ (hw _ (List.mem_of_getElem? (i := 7) rfl))) (mvT hZ (hw _ (List.mem_of_getElem? (i := 8) rfl))) (by decide) (backOf (W := 0) (own_rm_min l Z a0 hw [] u2 u8 T7.heap n0 Z7) hZ (hw _ (List.mem_of_getElem? (i := 8) rfl)) (hw _ (List.mem_of_getElem? (i := 7) rfl)) (by decide) (by decide)) (g := (mkF m 28 #[.val (.long q1), .second, .val (.long q2), .second, .val (.long q3), .second, .val (.long u2), .second, .val (.long u4), .second, .val (.long u6), .second, .unset, .unset, .unset, .unset, .unset, .unset, .unset, .unset, .unset] [(.long u8), (.long u2)])) rfl (by rw [hml]; rfl) (argsL := [(.long u2), (.long u8)]) (rest := []) (lenOf own_pd2 rfl) rfl (by show 2 * 0 + _ ≤ _; exact Nat.le_of_eq rfl) (hb hby at_28) (fun _ _ => ⟨rfl, rfl, (by decide : 0 + 0 ≤ _), (by decide : 0 + 0 ≤ _)⟩)
  dsimp only [Pt.U, Pt.locs, Pt.cells, Pt.slots] at X9 l9 y9 z9 st9 hQ9
  subst l9 y9 z9
  obtain ⟨rfl, N9q, e9q⟩ := hQ9
  have N9 := Fr.app N7 N9q
  have Z9 : n0 ≤ T9.heap.size := by rw [e9q]; exact Z7
  obtain ⟨u10, hu10⟩ : ∃ z : Int64, z = (own_mn u2 u8) := ⟨_, rfl⟩
  rw [← hu10] at st9
  obtain ⟨_, _, ⟨T11, L11, k11, n11⟩, -, X11, ⟨Lc11, hQ11, l11, y11, z11⟩, st11⟩ := Jvm.LawKit.callS X9 hx (y := (⟨"java/lang/Math", "max", "(JJ)J"⟩ : MethodName)) hown (mvT hZ (hw _ (List.mem_of_getElem? (i := 9) rfl))) (mvT hZ (hw _ (List.mem_of_getElem? (i := 10) rfl))) (mvT hZ (hw _ (List.mem_of_getElem? (i := 7) rfl))) (mvT hZ (hw _ (List.mem_of_getElem? (i := 11) rfl))) (by decide) (backOf (W := 2) (own_rm_max l Z a0 hw [] u4 u6 T9.heap n0 Z9) hZ (hw _ (List.mem_of_getElem? (i := 11) rfl)) (hw _ (List.mem_of_getElem? (i := 7) rfl)) (by decide) (by decide)) (g := (mkF m 39 #[.val (.long q1), .second, .val (.long q2), .second, .val (.long q3), .second, .val (.long u2), .second, .val (.long u4), .second, .val (.long u6), .second, .val (.long u10), .second, .unset, .unset, .unset, .unset, .unset, .unset, .unset] [(.long u6), (.long u4), (.long u2)])) rfl (by rw [hml]; rfl) (argsL := [(.long u4), (.long u6)]) (rest := [(.long u2)]) (lenOf own_pd2 rfl) rfl (by show 2 * 0 + _ ≤ _; exact Nat.le_of_eq rfl) (hb hby at_39) (fun _ _ => ⟨rfl, rfl, (by decide : 0 + 0 ≤ _), (by decide : 0 + 0 ≤ _)⟩)
  dsimp only [Pt.U, Pt.locs, Pt.cells, Pt.slots] at X11 l11 y11 z11 st11 hQ11
  subst l11 y11 z11
  obtain ⟨rfl, N11q, e11q⟩ := hQ11
  have N11 := Fr.app N9 N11q
  have Z11 : n0 ≤ T11.heap.size := by rw [e11q]; exact Z9
  obtain ⟨u12, hu12⟩ : ∃ z : Int64, z = (own_mx u4 u6) := ⟨_, rfl⟩
  rw [← hu12] at st11
  obtain ⟨_, _, ⟨T13, L13, k13, n13⟩, -, X13, ⟨Lc13, hQ13, l13, y13, z13⟩, st13⟩ := Jvm.LawKit.callS X11 hx (y := (⟨"java/lang/Math", "max", "(JJ)J"⟩ : MethodName)) hown (mvT hZ (hw _ (List.mem_of_getElem? (i := 9) rfl))) (mvT hZ (hw _ (List.mem_of_getElem? (i := 10) rfl))) (mvT hZ (hw _ (List.mem_of_getElem? (i := 7) rfl))) (mvT hZ (hw _ (List.mem_of_getElem? (i := 11) rfl))) (by decide) (backOf (W := 0) (own_rm_max l Z a0 hw [] u2 u12 T11.heap n0 Z11) hZ (hw _ (List.mem_of_getElem? (i := 11) rfl)) (hw _ (List.mem_of_getElem? (i := 7) rfl)) (by decide) (by decide)) (g := (mkF m 42 #[.val (.long q1), .second, .val (.long q2), .second, .val (.long q3), .second, .val (.long u2), .second, .val (.long u4), .second, .val (.long u6), .second, .val (.long u10), .second, .unset, .unset, .unset, .unset, .unset, .unset, .unset] [(.long u12), (.long u2)])) rfl (by rw [hml]; rfl) (argsL := [(.long u2), (.long u12)]) (rest := []) (lenOf own_pd2 rfl) rfl (by show 2 * 0 + _ ≤ _; exact Nat.le_of_eq rfl) (hb hby at_42) (fun _ _ => ⟨rfl, rfl, (by decide : 0 + 0 ≤ _), (by decide : 0 + 0 ≤ _)⟩)
  dsimp only [Pt.U, Pt.locs, Pt.cells, Pt.slots] at X13 l13 y13 z13 st13 hQ13
  subst l13 y13 z13
  obtain ⟨rfl, N13q, e13q⟩ := hQ13
  have N13 := Fr.app N11 N13q
  have Z13 : n0 ≤ T13.heap.size := by rw [e13q]; exact Z11
  obtain ⟨u14, hu14⟩ : ∃ z : Int64, z = (own_mx u2 u12) := ⟨_, rfl⟩
  rw [← hu14] at st13
  obtain ⟨_, _, ⟨T15, L15, k15, n15⟩, -, X15, ⟨Lc15, hQ15, l15, y15, z15⟩, st15⟩ := Jvm.LawKit.callS X13 hx (y := (⟨"java/lang/Math", "min", "(JJ)J"⟩ : MethodName)) hown (mvT hZ (hw _ (List.mem_of_getElem? (i := 5) rfl))) (mvT hZ (hw _ (List.mem_of_getElem? (i := 6) rfl))) (mvT hZ (hw _ (List.mem_of_getElem? (i := 7) rfl))) (mvT hZ (hw _ (List.mem_of_getElem? (i := 8) rfl))) (by decide) (backOf (W := 0) (own_rm_min l Z a0 hw [] u2 u4 T13.heap n0 Z13) hZ (hw _ (List.mem_of_getElem? (i := 8) rfl)) (hw _ (List.mem_of_getElem? (i := 7) rfl)) (by decide) (by decide)) (g := (mkF m 51 #[.val (.long q1), .second, .val (.long q2), .second, .val (.long q3), .second, .val (.long u2), .second, .val (.long u4), .second, .val (.long u6), .second, .val (.long u10), .second, .val (.long u14), .second, .unset, .unset, .unset, .unset, .unset] [(.long u4), (.long u2)])) rfl (by rw [hml]; rfl) (argsL := [(.long u2), (.long u4)]) (rest := []) (lenOf own_pd2 rfl) rfl (by show 2 * 0 + _ ≤ _; exact Nat.le_of_eq rfl) (hb hby at_51) (fun _ _ => ⟨rfl, rfl, (by decide : 0 + 0 ≤ _), (by decide : 0 + 0 ≤ _)⟩)
  dsimp only [Pt.U, Pt.locs, Pt.cells, Pt.slots] at X15 l15 y15 z15 st15 hQ15
  subst l15 y15 z15
  obtain ⟨rfl, N15q, e15q⟩ := hQ15
  have N15 := Fr.app N13 N15q
  have Z15 : n0 ≤ T15.heap.size := by rw [e15q]; exact Z13
  obtain ⟨u16, hu16⟩ : ∃ z : Int64, z = (own_mn u2 u4) := ⟨_, rfl⟩
  rw [← hu16] at st15
  obtain ⟨_, _, ⟨T17, L17, k17, n17⟩, -, X17, ⟨Lc17, hQ17, l17, y17, z17⟩, st17⟩ := Jvm.LawKit.callS X15 hx (y := (⟨"java/lang/Math", "max", "(JJ)J"⟩ : MethodName)) hown (mvT hZ (hw _ (List.mem_of_getElem? (i := 9) rfl))) (mvT hZ (hw _ (List.mem_of_getElem? (i := 10) rfl))) (mvT hZ (hw _ (List.mem_of_getElem? (i := 7) rfl))) (mvT hZ (hw _ (List.mem_of_getElem? (i := 11) rfl))) (by decide) (backOf (W := 2) (own_rm_max l Z a0 hw [] u2 u4 T15.heap n0 Z15) hZ (hw _ (List.mem_of_getElem? (i := 11) rfl)) (hw _ (List.mem_of_getElem? (i := 7) rfl)) (by decide) (by decide)) (g := (mkF m 58 #[.val (.long q1), .second, .val (.long q2), .second, .val (.long q3), .second, .val (.long u2), .second, .val (.long u4), .second, .val (.long u6), .second, .val (.long u10), .second, .val (.long u14), .second, .unset, .unset, .unset, .unset, .unset] [(.long u4), (.long u2), (.long u16)])) rfl (by rw [hml]; rfl) (argsL := [(.long u2), (.long u4)]) (rest := [(.long u16)]) (lenOf own_pd2 rfl) rfl (by show 2 * 0 + _ ≤ _; exact Nat.le_of_eq rfl) (hb hby at_58) (fun _ _ => ⟨rfl, rfl, (by decide : 0 + 0 ≤ _), (by decide : 0 + 0 ≤ _)⟩)
  dsimp only [Pt.U, Pt.locs, Pt.cells, Pt.slots] at X17 l17 y17 z17 st17 hQ17
  subst l17 y17 z17
  obtain ⟨rfl, N17q, e17q⟩ := hQ17
  have N17 := Fr.app N15 N17q
  have Z17 : n0 ≤ T17.heap.size := by rw [e17q]; exact Z15
  obtain ⟨u18, hu18⟩ : ∃ z : Int64, z = (own_mx u2 u4) := ⟨_, rfl⟩
  rw [← hu18] at st17
  obtain ⟨_, _, ⟨T19, L19, k19, n19⟩, -, X19, ⟨Lc19, hQ19, l19, y19, z19⟩, st19⟩ := Jvm.LawKit.callS X17 hx (y := (⟨"java/lang/Math", "min", "(JJ)J"⟩ : MethodName)) hown (mvT hZ (hw _ (List.mem_of_getElem? (i := 5) rfl))) (mvT hZ (hw _ (List.mem_of_getElem? (i := 6) rfl))) (mvT hZ (hw _ (List.mem_of_getElem? (i := 7) rfl))) (mvT hZ (hw _ (List.mem_of_getElem? (i := 8) rfl))) (by decide) (backOf (W := 2) (own_rm_min l Z a0 hw [] u18 u6 T17.heap n0 Z17) hZ (hw _ (List.mem_of_getElem? (i := 8) rfl)) (hw _ (List.mem_of_getElem? (i := 7) rfl)) (by decide) (by decide)) (g := (mkF m 63 #[.val (.long q1), .second, .val (.long q2), .second, .val (.long q3), .second, .val (.long u2), .second, .val (.long u4), .second, .val (.long u6), .second, .val (.long u10), .second, .val (.long u14), .second, .unset, .unset, .unset, .unset, .unset] [(.long u6), (.long u18), (.long u16)])) rfl (by rw [hml]; rfl) (argsL := [(.long u18), (.long u6)]) (rest := [(.long u16)]) (lenOf own_pd2 rfl) rfl (by show 2 * 0 + _ ≤ _; exact Nat.le_of_eq rfl) (hb hby at_63) (fun _ _ => ⟨rfl, rfl, (by decide : 0 + 0 ≤ _), (by decide : 0 + 0 ≤ _)⟩)
  dsimp only [Pt.U, Pt.locs, Pt.cells, Pt.slots] at X19 l19 y19 z19 st19 hQ19
  subst l19 y19 z19
  obtain ⟨rfl, N19q, e19q⟩ := hQ19
  have N19 := Fr.app N17 N19q
  have Z19 : n0 ≤ T19.heap.size := by rw [e19q]; exact Z17
  obtain ⟨u20, hu20⟩ : ∃ z : Int64, z = (own_mn u18 u6) := ⟨_, rfl⟩
  rw [← hu20] at st19
  obtain ⟨_, _, ⟨T21, L21, k21, n21⟩, -, X21, ⟨Lc21, hQ21, l21, y21, z21⟩, st21⟩ := Jvm.LawKit.callS X19 hx (y := (⟨"java/lang/Math", "max", "(JJ)J"⟩ : MethodName)) hown (mvT hZ (hw _ (List.mem_of_getElem? (i := 9) rfl))) (mvT hZ (hw _ (List.mem_of_getElem? (i := 10) rfl))) (mvT hZ (hw _ (List.mem_of_getElem? (i := 7) rfl))) (mvT hZ (hw _ (List.mem_of_getElem? (i := 11) rfl))) (by decide) (backOf (W := 0) (own_rm_max l Z a0 hw [] u16 u20 T19.heap n0 Z19) hZ (hw _ (List.mem_of_getElem? (i := 11) rfl)) (hw _ (List.mem_of_getElem? (i := 7) rfl)) (by decide) (by decide)) (g := (mkF m 66 #[.val (.long q1), .second, .val (.long q2), .second, .val (.long q3), .second, .val (.long u2), .second, .val (.long u4), .second, .val (.long u6), .second, .val (.long u10), .second, .val (.long u14), .second, .unset, .unset, .unset, .unset, .unset] [(.long u20), (.long u16)])) rfl (by rw [hml]; rfl) (argsL := [(.long u16), (.long u20)]) (rest := []) (lenOf own_pd2 rfl) rfl (by show 2 * 0 + _ ≤ _; exact Nat.le_of_eq rfl) (hb hby at_66) (fun _ _ => ⟨rfl, rfl, (by decide : 0 + 0 ≤ _), (by decide : 0 + 0 ≤ _)⟩)
  dsimp only [Pt.U, Pt.locs, Pt.cells, Pt.slots] at X21 l21 y21 z21 st21 hQ21
  subst l21 y21 z21
  obtain ⟨rfl, N21q, e21q⟩ := hQ21
  have N21 := Fr.app N19 N21q
  have Z21 : n0 ≤ T21.heap.size := by rw [e21q]; exact Z19
  obtain ⟨u22, hu22⟩ : ∃ z : Int64, z = (own_mx u16 u20) := ⟨_, rfl⟩
  rw [← hu22] at st21
  have eu10 : u10 = (own_mn (own_pos q1) (own_mn (own_pos q2) (own_pos q3))) := by simp only [hu10, hu8, hu6, hu4, hu2]
  have eu14 : u14 = (own_mx (own_pos q1) (own_mx (own_pos q2) (own_pos q3))) := by simp only [hu14, hu12, hu10, hu8, hu6, hu4, hu2]
  have eu22 : u22 = (own_mx (own_mn (own_pos q1) (own_pos q2)) (own_mn (own_mx (own_pos q1) (own_pos q2)) (own_pos q3))) := by simp only [hu22, hu20, hu18, hu16, hu14, hu12, hu10, hu8, hu6, hu4, hu2]
  rw [← eu14, ← eu22] at hp
  have hS := own_sorted (by rw [hu2]; exact own_pos_bounds _) (by rw [hu4]; exact own_pos_bounds _) (by rw [hu6]; exact own_pos_bounds _) hu8 hu10 hu12 hu14 hu16 hu18 hu20 hu22
  obtain ⟨T23, h23, X23, e23, E23, A23, D23, -, st23⟩ := newO X21 hx hZ hown (hw _ (List.mem_of_getElem? (i := 12) rfl)) (hw _ (List.mem_of_getElem? (i := 13) rfl)) (hw _ (List.mem_of_getElem? (i := 14) rfl)) rfl (g := (mkF m 71 #[.val (.long q1), .second, .val (.long q2), .second, .val (.long q3), .second, .val (.long u2), .second, .val (.long u4), .second, .val (.long u6), .second, .val (.long u10), .second, .val (.long u14), .second, .val (.long u22), .second, .unset, .unset, .unset] [])) rfl (hb hby at_71) (by decide) (by decide)
  obtain ⟨b23, g23⟩ : ∃ z, z = T21.heap.size := ⟨_, rfl⟩
  rw [← g23] at A23 D23 st23
  have g_b23 : n0 ≤ b23 := Nat.le_trans Z21 (Nat.le_of_eq g23.symm)
  have Z23 := Nat.le_trans Z21 E23.1
  have F23_first : Fld Z h23 b23 "com/example/beamhall/beamhall/hub/ByteRange" "first" "J" (.long (0 : Int64)) := D23 (Or.inr (hw _ (List.mem_of_getElem? (i := 27) rfl))) (ty := .long) (by decide)
  have F23_last : Fld Z h23 b23 "com/example/beamhall/beamhall/hub/ByteRange" "last" "J" (.long (0 : Int64)) := D23 (Or.inr (hw _ (List.mem_of_getElem? (i := 29) rfl))) (ty := .long) (by decide)
  obtain ⟨_, _, ⟨T24, L24, k24, n24⟩, -, X24, ⟨Lc24, hQ24, l24, y24, z24⟩, st24⟩ := X23.specialBack hx (y := (⟨"com/example/beamhall/beamhall/hub/ByteRange", "<init>", "(JJ)V"⟩ : MethodName)) rfl hown (mvT hZ (hw _ (List.mem_of_getElem? (i := 15) rfl))) (mvT hZ (hw _ (List.mem_of_getElem? (i := 16) rfl))) (mvT hZ (hw _ (List.mem_of_getElem? (i := 17) rfl))) (by decide) (backOf (W := 1) (own_rm_init l Z a0 hw [] b23 u10 u14 h23 n0 Z23 A23 F23_first F23_last g_b23) hZ (hw _ (List.mem_of_getElem? (i := 17) rfl)) (hw _ (List.mem_of_getElem? (i := 14) rfl)) (by decide) (by decide)) (g := (mkF m 79 #[.val (.long q1), .second, .val (.long q2), .second, .val (.long q3), .second, .val (.long u2), .second, .val (.long u4), .second, .val (.long u6), .second, .val (.long u10), .second, .val (.long u14), .second, .val (.long u22), .second, .unset, .unset, .unset] [(.long u14), (.long u10), (.ref b23), (.ref b23)])) rfl (by rw [hml]; rfl) (Steps.refl _) (a := b23) (argsL := [(.long u10), (.long u14)]) (rest := [(.ref b23)]) (lenOf own_pd3 rfl) rfl (by show 2 * 0 + _ ≤ _; exact Nat.le_of_eq rfl) (hb hby at_79) (fun _ _ => ⟨rfl, e23, (by decide : 1 + 0 ≤ _), (by decide : 2 + 0 ≤ _)⟩)
  dsimp only [Pt.U, Pt.locs, Pt.cells, Pt.slots] at X24 l24 y24 z24 st24 hQ24
  subst l24 y24 z24
  obtain ⟨rfl, N24q, Eq24, Ff24, Fl24, Zq24⟩ := hQ24
  have N24 := Fr.app N21 N24q
  obtain ⟨cq25, kq25, q25a, q25b, q25c⟩ := isOf hZ rfl Eq24
  obtain ⟨_, _, ⟨T25, L25, k25, n25⟩, -, X25, ⟨Lc25, hQ25, l25, y25, z25⟩, st25⟩ := X24.virtualBack hx (y := (⟨"com/example/beamhall/beamhall/hub/ByteRange", "length", "()J"⟩ : MethodName)) (z := (⟨"com/example/beamhall/beamhall/hub/ByteRange", "length", "()J"⟩ : MethodName)) hown (mvT hZ (hw _ (List.mem_of_getElem? (i := 30) rfl))) (mvT hZ (hw _ (List.mem_of_getElem? (i := 31) rfl))) (notFace_of_selects (args := #[]) (mvT hZ (hw _ (List.mem_of_getElem? (i := 33) rfl)))) (mvT hZ (hw _ (List.mem_of_getElem? (i := 33) rfl))) (mvT hZ (hw _ (List.mem_of_getElem? (i := 32) rfl))) (by decide) (backOf (W := 0) (own_rm_len l Z a0 hw [] b23 u10 u14 T24.heap n0 Zq24 Ff24 Fl24) hZ (hw _ (List.mem_of_getElem? (i := 34) rfl)) (hw _ (List.mem_of_getElem? (i := 14) rfl)) (by decide) (by decide)) q25a q25c (g := (mkF m 82 #[.val (.long q1), .second, .val (.long q2), .second, .val (.long q3), .second, .val (.long u2), .second, .val (.long u4), .second, .val (.long u6), .second, .val (.long u10), .second, .val (.long u14), .second, .val (.long u22), .second, .unset, .unset, .unset] [(.ref b23)])) rfl (by rw [hml]; rfl) (Steps.refl _) (argsL := []) (rest := []) (lenOf own_pd4 rfl) rfl (by show 2 * 0 + _ ≤ _; exact Nat.le_of_eq rfl) (hb hby at_82) (fun _ _ => ⟨rfl, rfl, (by decide : 1 + 0 ≤ _), (by decide : 2 + 0 ≤ _)⟩)
  dsimp only [Pt.U, Pt.locs, Pt.cells, Pt.slots] at X25 l25 y25 z25 st25 hQ25
  subst l25 y25 z25
  obtain ⟨rfl, N25q, e25q⟩ := hQ25
  have N25 := Fr.app N24 N25q
  have E25_b23 : Exa Z T25.heap b23 "com/example/beamhall/beamhall/hub/ByteRange" := by rw [e25q]; exact Eq24
  have Fs25_b23_first : Fld Z T25.heap b23 "com/example/beamhall/beamhall/hub/ByteRange" "first" "J" (.long u10) := by rw [e25q]; exact Ff24
  have Fs25_b23_last : Fld Z T25.heap b23 "com/example/beamhall/beamhall/hub/ByteRange" "last" "J" (.long u14) := by rw [e25q]; exact Fl24
  have Z25 : n0 ≤ T25.heap.size := by rw [e25q]; exact Zq24
  obtain ⟨w26, hw26⟩ : ∃ z : Int64, z = (own_len u10 u14) := ⟨_, rfl⟩
  obtain ⟨T27, h27, X27, e27, E27, A27, D27, -, st27⟩ := newO X25 hx hZ hown (hw _ (List.mem_of_getElem? (i := 12) rfl)) (hw _ (List.mem_of_getElem? (i := 13) rfl)) (hw _ (List.mem_of_getElem? (i := 14) rfl)) rfl (g := (mkF m 94 #[.val (.long q1), .second, .val (.long q2), .second, .val (.long q3), .second, .val (.long u2), .second, .val (.long u4), .second, .val (.long u6), .second, .val (.long u10), .second, .val (.long u14), .second, .val (.long u22), .second, .val (.long w26), .second, .unset] [])) rfl (hb hby at_94) (by decide) (by decide)
  obtain ⟨b27, g27⟩ : ∃ z, z = T25.heap.size := ⟨_, rfl⟩
  rw [← g27] at A27 D27 st27
  have g_b27 : n0 ≤ b27 := Nat.le_trans Z25 (Nat.le_of_eq g27.symm)
  have Z27 := Nat.le_trans Z25 E27.1
  have F27_first : Fld Z h27 b27 "com/example/beamhall/beamhall/hub/ByteRange" "first" "J" (.long (0 : Int64)) := D27 (Or.inr (hw _ (List.mem_of_getElem? (i := 27) rfl))) (ty := .long) (by decide)
  have F27_last : Fld Z h27 b27 "com/example/beamhall/beamhall/hub/ByteRange" "last" "J" (.long (0 : Int64)) := D27 (Or.inr (hw _ (List.mem_of_getElem? (i := 29) rfl))) (ty := .long) (by decide)
  obtain ⟨_, _, ⟨T28, L28, k28, n28⟩, -, X28, ⟨Lc28, hQ28, l28, y28, z28⟩, st28⟩ := X27.specialBack hx (y := (⟨"com/example/beamhall/beamhall/hub/ByteRange", "<init>", "(JJ)V"⟩ : MethodName)) rfl hown (mvT hZ (hw _ (List.mem_of_getElem? (i := 15) rfl))) (mvT hZ (hw _ (List.mem_of_getElem? (i := 16) rfl))) (mvT hZ (hw _ (List.mem_of_getElem? (i := 17) rfl))) (by decide) (backOf (W := 1) (own_rm_init l Z a0 hw [] b27 u22 u22 h27 n0 Z27 A27 F27_first F27_last g_b27) hZ (hw _ (List.mem_of_getElem? (i := 17) rfl)) (hw _ (List.mem_of_getElem? (i := 14) rfl)) (by decide) (by decide)) (g := (mkF m 102 #[.val (.long q1), .second, .val (.long q2), .second, .val (.long q3), .second, .val (.long u2), .second, .val (.long u4), .second, .val (.long u6), .second, .val (.long u10), .second, .val (.long u14), .second, .val (.long u22), .second, .val (.long w26), .second, .unset] [(.long u22), (.long u22), (.ref b27), (.ref b27)])) rfl (by rw [hml]; rfl) (Steps.refl _) (a := b27) (argsL := [(.long u22), (.long u22)]) (rest := [(.ref b27)]) (lenOf own_pd3 rfl) rfl (by show 2 * 0 + _ ≤ _; exact Nat.le_of_eq rfl) (hb hby at_102) (fun _ _ => ⟨rfl, e27, (by decide : 2 + 0 ≤ _), (by decide : 4 + 0 ≤ _)⟩)
  dsimp only [Pt.U, Pt.locs, Pt.cells, Pt.slots] at X28 l28 y28 z28 st28 hQ28
  subst l28 y28 z28
  obtain ⟨rfl, N28q, Eq28, Ff28, Fl28, Zq28⟩ := hQ28
  have N28 := Fr.app N25 N28q
  obtain ⟨cq29, kq29, q29a, q29b, q29c⟩ := isOf hZ rfl Eq28
  obtain ⟨_, _, ⟨T29, L29, k29, n29⟩, -, X29, ⟨Lc29, hQ29, l29, y29, z29⟩, st29⟩ := X28.virtualBack hx (y := (⟨"com/example/beamhall/beamhall/hub/ByteRange", "length", "()J"⟩ : MethodName)) (z := (⟨"com/example/beamhall/beamhall/hub/ByteRange", "length", "()J"⟩ : MethodName)) hown (mvT hZ (hw _ (List.mem_of_getElem? (i := 30) rfl))) (mvT hZ (hw _ (List.mem_of_getElem? (i := 31) rfl))) (notFace_of_selects (args := #[]) (mvT hZ (hw _ (List.mem_of_getElem? (i := 33) rfl)))) (mvT hZ (hw _ (List.mem_of_getElem? (i := 33) rfl))) (mvT hZ (hw _ (List.mem_of_getElem? (i := 32) rfl))) (by decide) (backOf (W := 0) (own_rm_len l Z a0 hw [] b27 u22 u22 T28.heap n0 Zq28 Ff28 Fl28) hZ (hw _ (List.mem_of_getElem? (i := 34) rfl)) (hw _ (List.mem_of_getElem? (i := 14) rfl)) (by decide) (by decide)) q29a q29c (g := (mkF m 105 #[.val (.long q1), .second, .val (.long q2), .second, .val (.long q3), .second, .val (.long u2), .second, .val (.long u4), .second, .val (.long u6), .second, .val (.long u10), .second, .val (.long u14), .second, .val (.long u22), .second, .val (.long w26), .second, .unset] [(.ref b27)])) rfl (by rw [hml]; rfl) (Steps.refl _) (argsL := []) (rest := []) (lenOf own_pd4 rfl) rfl (by show 2 * 0 + _ ≤ _; exact Nat.le_of_eq rfl) (hb hby at_105) (fun _ _ => ⟨rfl, rfl, (by decide : 2 + 0 ≤ _), (by decide : 4 + 0 ≤ _)⟩)
  dsimp only [Pt.U, Pt.locs, Pt.cells, Pt.slots] at X29 l29 y29 z29 st29 hQ29
  subst l29 y29 z29
  obtain ⟨rfl, N29q, e29q⟩ := hQ29
  have N29 := Fr.app N28 N29q
  have E29_b27 : Exa Z T29.heap b27 "com/example/beamhall/beamhall/hub/ByteRange" := by rw [e29q]; exact Eq28
  have Fs29_b27_first : Fld Z T29.heap b27 "com/example/beamhall/beamhall/hub/ByteRange" "first" "J" (.long u22) := by rw [e29q]; exact Ff28
  have Fs29_b27_last : Fld Z T29.heap b27 "com/example/beamhall/beamhall/hub/ByteRange" "last" "J" (.long u22) := by rw [e29q]; exact Fl28
  have Z29 : n0 ≤ T29.heap.size := by rw [e29q]; exact Zq28
  obtain ⟨T30, h30, X30, e30, E30, A30, D30, -, st30⟩ := newO X29 hx hZ hown (hw _ (List.mem_of_getElem? (i := 12) rfl)) (hw _ (List.mem_of_getElem? (i := 13) rfl)) (hw _ (List.mem_of_getElem? (i := 14) rfl)) rfl (g := (mkF m 135 #[.val (.long q1), .second, .val (.long q2), .second, .val (.long q3), .second, .val (.long u2), .second, .val (.long u4), .second, .val (.long u6), .second, .val (.long u10), .second, .val (.long u14), .second, .val (.long u22), .second, .val (.long w26), .second, .val (.int (1 : Int32))] [(.long w26)])) rfl (hb hby at_135) (by decide) (by decide)
  obtain ⟨b30, g30⟩ : ∃ z, z = T29.heap.size := ⟨_, rfl⟩
  rw [← g30] at A30 D30 st30
  have g_b30 : n0 ≤ b30 := Nat.le_trans Z29 (Nat.le_of_eq g30.symm)
  have Z30 := Nat.le_trans Z29 E30.1
  have F30_first : Fld Z h30 b30 "com/example/beamhall/beamhall/hub/ByteRange" "first" "J" (.long (0 : Int64)) := D30 (Or.inr (hw _ (List.mem_of_getElem? (i := 27) rfl))) (ty := .long) (by decide)
  have F30_last : Fld Z h30 b30 "com/example/beamhall/beamhall/hub/ByteRange" "last" "J" (.long (0 : Int64)) := D30 (Or.inr (hw _ (List.mem_of_getElem? (i := 29) rfl))) (ty := .long) (by decide)
  obtain ⟨_, _, ⟨T31, L31, k31, n31⟩, -, X31, ⟨Lc31, hQ31, l31, y31, z31⟩, st31⟩ := X30.specialBack hx (y := (⟨"com/example/beamhall/beamhall/hub/ByteRange", "<init>", "(JJ)V"⟩ : MethodName)) rfl hown (mvT hZ (hw _ (List.mem_of_getElem? (i := 15) rfl))) (mvT hZ (hw _ (List.mem_of_getElem? (i := 16) rfl))) (mvT hZ (hw _ (List.mem_of_getElem? (i := 17) rfl))) (by decide) (backOf (W := 3) (own_rm_init l Z a0 hw [] b30 u10 u22 h30 n0 Z30 A30 F30_first F30_last g_b30) hZ (hw _ (List.mem_of_getElem? (i := 17) rfl)) (hw _ (List.mem_of_getElem? (i := 14) rfl)) (by decide) (by decide)) (g := (mkF m 143 #[.val (.long q1), .second, .val (.long q2), .second, .val (.long q3), .second, .val (.long u2), .second, .val (.long u4), .second, .val (.long u6), .second, .val (.long u10), .second, .val (.long u14), .second, .val (.long u22), .second, .val (.long w26), .second, .val (.int (1 : Int32))] [(.long u22), (.long u10), (.ref b30), (.ref b30), (.long w26)])) rfl (by rw [hml]; rfl) (Steps.refl _) (a := b30) (argsL := [(.long u10), (.long u22)]) (rest := [(.ref b30), (.long w26)]) (lenOf own_pd3 rfl) rfl (by show 2 * 0 + _ ≤ _; exact Nat.le_of_eq rfl) (hb hby at_143) (fun _ _ => ⟨rfl, e30, (by decide : 3 + 0 ≤ _), (by decide : 6 + 0 ≤ _)⟩)
  dsimp only [Pt.U, Pt.locs, Pt.cells, Pt.slots] at X31 l31 y31 z31 st31 hQ31
  subst l31 y31 z31
  obtain ⟨rfl, N31q, Eq31, Ff31, Fl31, Zq31⟩ := hQ31
  have N31 := Fr.app N29 N31q
  obtain ⟨cq32, kq32, q32a, q32b, q32c⟩ := isOf hZ rfl Eq31
  obtain ⟨_, _, ⟨T32, L32, k32, n32⟩, -, X32, ⟨Lc32, hQ32, l32, y32, z32⟩, st32⟩ := X31.virtualBack hx (y := (⟨"com/example/beamhall/beamhall/hub/ByteRange", "length", "()J"⟩ : MethodName)) (z := (⟨"com/example/beamhall/beamhall/hub/ByteRange", "length", "()J"⟩ : MethodName)) hown (mvT hZ (hw _ (List.mem_of_getElem? (i := 30) rfl))) (mvT hZ (hw _ (List.mem_of_getElem? (i := 31) rfl))) (notFace_of_selects (args := #[]) (mvT hZ (hw _ (List.mem_of_getElem? (i := 33) rfl)))) (mvT hZ (hw _ (List.mem_of_getElem? (i := 33) rfl))) (mvT hZ (hw _ (List.mem_of_getElem? (i := 32) rfl))) (by decide) (backOf (W := 2) (own_rm_len l Z a0 hw [] b30 u10 u22 T31.heap n0 Zq31 Ff31 Fl31) hZ (hw _ (List.mem_of_getElem? (i := 34) rfl)) (hw _ (List.mem_of_getElem? (i := 14) rfl)) (by decide) (by decide)) q32a q32c (g := (mkF m 146 #[.val (.long q1), .second, .val (.long q2), .second, .val (.long q3), .second, .val (.long u2), .second, .val (.long u4), .second, .val (.long u6), .second, .val (.long u10), .second, .val (.long u14), .second, .val (.long u22), .second, .val (.long w26), .second, .val (.int (1 : Int32))] [(.ref b30), (.long w26)])) rfl (by rw [hml]; rfl) (Steps.refl _) (argsL := []) (rest := [(.long w26)]) (lenOf own_pd4 rfl) rfl (by show 2 * 0 + _ ≤ _; exact Nat.le_of_eq rfl) (hb hby at_146) (fun _ _ => ⟨rfl, rfl, (by decide : 3 + 0 ≤ _), (by decide : 6 + 0 ≤ _)⟩)
  dsimp only [Pt.U, Pt.locs, Pt.cells, Pt.slots] at X32 l32 y32 z32 st32 hQ32
  subst l32 y32 z32
  obtain ⟨rfl, N32q, e32q⟩ := hQ32
  have N32 := Fr.app N31 N32q
  have E32_b30 : Exa Z T32.heap b30 "com/example/beamhall/beamhall/hub/ByteRange" := by rw [e32q]; exact Eq31
  have Fs32_b30_first : Fld Z T32.heap b30 "com/example/beamhall/beamhall/hub/ByteRange" "first" "J" (.long u10) := by rw [e32q]; exact Ff31
  have Fs32_b30_last : Fld Z T32.heap b30 "com/example/beamhall/beamhall/hub/ByteRange" "last" "J" (.long u22) := by rw [e32q]; exact Fl31
  have Z32 : n0 ≤ T32.heap.size := by rw [e32q]; exact Zq31
  obtain ⟨T33, h33, X33, e33, E33, A33, D33, -, st33⟩ := newO X32 hx hZ hown (hw _ (List.mem_of_getElem? (i := 12) rfl)) (hw _ (List.mem_of_getElem? (i := 13) rfl)) (hw _ (List.mem_of_getElem? (i := 14) rfl)) rfl (g := (mkF m 149 #[.val (.long q1), .second, .val (.long q2), .second, .val (.long q3), .second, .val (.long u2), .second, .val (.long u4), .second, .val (.long u6), .second, .val (.long u10), .second, .val (.long u14), .second, .val (.long u22), .second, .val (.long w26), .second, .val (.int (1 : Int32))] [(.long (own_len u10 u22)), (.long w26)])) rfl (hb hby at_149) (by decide) (by decide)
  obtain ⟨b33, g33⟩ : ∃ z, z = T32.heap.size := ⟨_, rfl⟩
  rw [← g33] at A33 D33 st33
  have g_b33 : n0 ≤ b33 := Nat.le_trans Z32 (Nat.le_of_eq g33.symm)
  have Z33 := Nat.le_trans Z32 E33.1
  have F33_first : Fld Z h33 b33 "com/example/beamhall/beamhall/hub/ByteRange" "first" "J" (.long (0 : Int64)) := D33 (Or.inr (hw _ (List.mem_of_getElem? (i := 27) rfl))) (ty := .long) (by decide)
  have F33_last : Fld Z h33 b33 "com/example/beamhall/beamhall/hub/ByteRange" "last" "J" (.long (0 : Int64)) := D33 (Or.inr (hw _ (List.mem_of_getElem? (i := 29) rfl))) (ty := .long) (by decide)
  obtain ⟨_, _, ⟨T34, L34, k34, n34⟩, -, X34, ⟨Lc34, hQ34, l34, y34, z34⟩, st34⟩ := X33.specialBack hx (y := (⟨"com/example/beamhall/beamhall/hub/ByteRange", "<init>", "(JJ)V"⟩ : MethodName)) rfl hown (mvT hZ (hw _ (List.mem_of_getElem? (i := 15) rfl))) (mvT hZ (hw _ (List.mem_of_getElem? (i := 16) rfl))) (mvT hZ (hw _ (List.mem_of_getElem? (i := 17) rfl))) (by decide) (backOf (W := 5) (own_rm_init l Z a0 hw [] b33 (u22 + (1 : Int64)) u14 h33 n0 Z33 A33 F33_first F33_last g_b33) hZ (hw _ (List.mem_of_getElem? (i := 17) rfl)) (hw _ (List.mem_of_getElem? (i := 14) rfl)) (by decide) (by decide)) (g := (mkF m 159 #[.val (.long q1), .second, .val (.long q2), .second, .val (.long q3), .second, .val (.long u2), .second, .val (.long u4), .second, .val (.long u6), .second, .val (.long u10), .second, .val (.long u14), .second, .val (.long u22), .second, .val (.long w26), .second, .val (.int (1 : Int32))] [(.long u14), (.long (u22 + (1 : Int64))), (.ref b33), (.ref b33), (.long (own_len u10 u22)), (.long w26)])) rfl (by rw [hml]; rfl) (Steps.refl _) (a := b33) (argsL := [(.long (u22 + (1 : Int64))), (.long u14)]) (rest := [(.ref b33), (.long (own_len u10 u22)), (.long w26)]) (lenOf own_pd3 rfl) rfl (by show 2 * 0 + _ ≤ _; exact Nat.le_of_eq rfl) (hb hby at_159) (fun _ _ => ⟨rfl, e33, (by decide : 4 + 0 ≤ _), (by decide : 8 + 0 ≤ _)⟩)
  dsimp only [Pt.U, Pt.locs, Pt.cells, Pt.slots] at X34 l34 y34 z34 st34 hQ34
  subst l34 y34 z34
  obtain ⟨rfl, N34q, Eq34, Ff34, Fl34, Zq34⟩ := hQ34
  have N34 := Fr.app N32 N34q
  obtain ⟨cq35, kq35, q35a, q35b, q35c⟩ := isOf hZ rfl Eq34
  obtain ⟨_, _, ⟨T35, L35, k35, n35⟩, -, X35, ⟨Lc35, hQ35, l35, y35, z35⟩, st35⟩ := X34.virtualBack hx (y := (⟨"com/example/beamhall/beamhall/hub/ByteRange", "length", "()J"⟩ : MethodName)) (z := (⟨"com/example/beamhall/beamhall/hub/ByteRange", "length", "()J"⟩ : MethodName)) hown (mvT hZ (hw _ (List.mem_of_getElem? (i := 30) rfl))) (mvT hZ (hw _ (List.mem_of_getElem? (i := 31) rfl))) (notFace_of_selects (args := #[]) (mvT hZ (hw _ (List.mem_of_getElem? (i := 33) rfl)))) (mvT hZ (hw _ (List.mem_of_getElem? (i := 33) rfl))) (mvT hZ (hw _ (List.mem_of_getElem? (i := 32) rfl))) (by decide) (backOf (W := 4) (own_rm_len l Z a0 hw [] b33 (u22 + (1 : Int64)) u14 T34.heap n0 Zq34 Ff34 Fl34) hZ (hw _ (List.mem_of_getElem? (i := 34) rfl)) (hw _ (List.mem_of_getElem? (i := 14) rfl)) (by decide) (by decide)) q35a q35c (g := (mkF m 162 #[.val (.long q1), .second, .val (.long q2), .second, .val (.long q3), .second, .val (.long u2), .second, .val (.long u4), .second, .val (.long u6), .second, .val (.long u10), .second, .val (.long u14), .second, .val (.long u22), .second, .val (.long w26), .second, .val (.int (1 : Int32))] [(.ref b33), (.long (own_len u10 u22)), (.long w26)])) rfl (by rw [hml]; rfl) (Steps.refl _) (argsL := []) (rest := [(.long (own_len u10 u22)), (.long w26)]) (lenOf own_pd4 rfl) rfl (by show 2 * 0 + _ ≤ _; exact Nat.le_of_eq rfl) (hb hby at_162) (fun _ _ => ⟨rfl, rfl, (by decide : 4 + 0 ≤ _), (by decide : 8 + 0 ≤ _)⟩)
  dsimp only [Pt.U, Pt.locs, Pt.cells, Pt.slots] at X35 l35 y35 z35 st35 hQ35
  subst l35 y35 z35
  obtain ⟨rfl, N35q, e35q⟩ := hQ35
  have N35 := Fr.app N34 N35q
  have E35_b33 : Exa Z T35.heap b33 "com/example/beamhall/beamhall/hub/ByteRange" := by rw [e35q]; exact Eq34
  have Fs35_b33_first : Fld Z T35.heap b33 "com/example/beamhall/beamhall/hub/ByteRange" "first" "J" (.long (u22 + (1 : Int64))) := by rw [e35q]; exact Ff34
  have Fs35_b33_last : Fld Z T35.heap b33 "com/example/beamhall/beamhall/hub/ByteRange" "last" "J" (.long u14) := by rw [e35q]; exact Fl34
  have Z35 : n0 ≤ T35.heap.size := by rw [e35q]; exact Zq34
  obtain ⟨fs, hr, hrun, hended, hW, hsame⟩ := X35.leave (v := some (.int (1 : Int32))) (fun h => by rw [Bd.returns] at h; cases h)
  refine ⟨_, _, pre0 _ ?_, hrun, hended, _, _, rfl, ?_, ⟨_, rfl⟩, hW, hsame.mono (by decide) (by decide)⟩
  · show Steps p.tables e below (s₁.setTop (mkF m 0 #[.val (.long q1), .second, .val (.long q2), .second, .val (.long q3), .second, .unset, .unset, .unset, .unset, .unset, .unset, .unset, .unset, .unset, .unset, .unset, .unset, .unset, .unset, .unset] [])) _
    refine XS.lloadN X0.here hx rfl (hb hby at_0) rfl ?_
    show Steps p.tables e below (s₁.setTop (mkF m 1 #[.val (.long q1), .second, .val (.long q2), .second, .val (.long q3), .second, .unset, .unset, .unset, .unset, .unset, .unset, .unset, .unset, .unset, .unset, .unset, .unset, .unset, .unset, .unset] [(.long q1)])) _
    refine st1 _ ?_
    show Steps p.tables e below (T1.setTop (mkF m 4 #[.val (.long q1), .second, .val (.long q2), .second, .val (.long q3), .second, .unset, .unset, .unset, .unset, .unset, .unset, .unset, .unset, .unset, .unset, .unset, .unset, .unset, .unset, .unset] [(.long u2)])) _
    refine XS.lstore X1.here hx rfl (hb hby at_4) rfl (l' := #[.val (.long q1), .second, .val (.long q2), .second, .val (.long q3), .second, .val (.long u2), .second, .unset, .unset, .unset, .unset, .unset, .unset, .unset, .unset, .unset, .unset, .unset, .unset, .unset]) rfl ?_
    show Steps p.tables e below (T1.setTop (mkF m 6 #[.val (.long q1), .second, .val (.long q2), .second, .val (.long q3), .second, .val (.long u2), .second, .unset, .unset, .unset, .unset, .unset, .unset, .unset, .unset, .unset, .unset, .unset, .unset, .unset] [])) _
    refine XS.lloadN X1.here hx rfl (hb hby at_6) rfl ?_
    show Steps p.tables e below (T1.setTop (mkF m 7 #[.val (.long q1), .second, .val (.long q2), .second, .val (.long q3), .second, .val (.long u2), .second, .unset, .unset, .unset, .unset, .unset, .unset, .unset, .unset, .unset, .unset, .unset, .unset, .unset] [(.long q2)])) _
    refine st3 _ ?_
    show Steps p.tables e below (T3.setTop (mkF m 10 #[.val (.long q1), .second, .val (.long q2), .second, .val (.long q3), .second, .val (.long u2), .second, .unset, .unset, .unset, .unset, .unset, .unset, .unset, .unset, .unset, .unset, .unset, .unset, .unset] [(.long u4)])) _
    refine XS.lstore X3.here hx rfl (hb hby at_10) rfl (l' := #[.val (.long q1), .second, .val (.long q2), .second, .val (.long q3), .second, .val (.long u2), .second, .val (.long u4), .second, .unset, .unset, .unset, .unset, .unset, .unset, .unset, .unset, .unset, .unset, .unset]) rfl ?_
    show Steps p.tables e below (T3.setTop (mkF m 12 #[.val (.long q1), .second, .val (.long q2), .second, .val (.long q3), .second, .val (.long u2), .second, .val (.long u4), .second, .unset, .unset, .unset, .unset, .unset, .unset, .unset, .unset, .unset, .unset, .unset] [])) _
    refine XS.lload X3.here hx rfl (hb hby at_12) rfl ?_
    show Steps p.tables e below (T3.setTop (mkF m 14 #[.val (.long q1), .second, .val (.long q2), .second, .val (.long q3), .second, .val (.long u2), .second, .val (.long u4), .second, .unset, .unset, .unset, .unset, .unset, .unset, .unset, .unset, .unset, .unset, .unset] [(.long q3)])) _
    refine st5 _ ?_
    show Steps p.tables e below (T5.setTop (mkF m 17 #[.val (.long q1), .second, .val (.long q2), .second, .val (.long q3), .second, .val (.long u2), .second, .val (.long u4), .second, .unset, .unset, .unset, .unset, .unset, .unset, .unset, .unset, .unset, .unset, .unset] [(.long u6)])) _
    refine XS.lstore X5.here hx rfl (hb hby at_17) rfl (l' := #[.val (.long q1), .second, .val (.long q2), .second, .val (.long q3), .second, .val (.long u2), .second, .val (.long u4), .second, .val (.long u6), .second, .unset, .unset, .unset, .unset, .unset, .unset, .unset, .unset, .unset]) rfl ?_
    show Steps p.tables e below (T5.setTop (mkF m 19 #[.val (.long q1), .second, .val (.long q2), .second, .val (.long q3), .second, .val (.long u2), .second, .val (.long u4), .second, .val (.long u6), .second, .unset, .unset, .unset, .unset, .unset, .unset, .unset, .unset, .unset] [])) _
    refine XS.lload X5.here hx rfl (hb hby at_19) rfl ?_
    show Steps p.tables e below (T5.setTop (mkF m 21 #[.val (.long q1), .second, .val (.long q2), .second, .val (.long q3), .second, .val (.long u2), .second, .val (.long u4), .second, .val (.long u6), .second, .unset, .unset, .unset, .unset, .unset, .unset, .unset, .unset, .unset] [(.long u2)])) _
    refine XS.lload X5.here hx rfl (hb hby at_21) rfl ?_
    show Steps p.tables e below (T5.setTop (mkF m 23 #[.val (.long q1), .second, .val (.long q2), .second, .val (.long q3), .second, .val (.long u2), .second, .val (.long u4), .second, .val (.long u6), .second, .unset, .unset, .unset, .unset, .unset, .unset, .unset, .unset, .unset] [(.long u4), (.long u2)])) _
    refine XS.lload X5.here hx rfl (hb hby at_23) rfl ?_
    show Steps p.tables e below (T5.setTop (mkF m 25 #[.val (.long q1), .second, .val (.long q2), .second, .val (.long q3), .second, .val (.long u2), .second, .val (.long u4), .second, .val (.long u6), .second, .unset, .unset, .unset, .unset, .unset, .unset, .unset, .unset, .unset] [(.long u6), (.long u4), (.long u2)])) _
    refine st7 _ ?_
    show Steps p.tables e below (T7.setTop (mkF m 28 #[.val (.long q1), .second, .val (.long q2), .second, .val (.long q3), .second, .val (.long u2), .second, .val (.long u4), .second, .val (.long u6), .second, .unset, .unset, .unset, .unset, .unset, .unset, .unset, .unset, .unset] [(.long u8), (.long u2)])) _
    refine st9 _ ?_
    show Steps p.tables e below (T9.setTop (mkF m 31 #[.val (.long q1), .second, .val (.long q2), .second, .val (.long q3), .second, .val (.long u2), .second, .val (.long u4), .second, .val (.long u6), .second, .unset, .unset, .unset, .unset, .unset, .unset, .unset, .unset, .unset] [(.long u10)])) _
    refine XS.lstore X9.here hx rfl (hb hby at_31) rfl (l' := #[.val (.long q1), .second, .val (.long q2), .second, .val (.long q3), .second, .val (.long u2), .second, .val (.long u4), .second, .val (.long u6), .second, .val (.long u10), .second, .unset, .unset, .unset, .unset, .unset, .unset, .unset]) rfl ?_
    show Steps p.tables e below (T9.setTop (mkF m 33 #[.val (.long q1), .second, .val (.long q2), .second, .val (.long q3), .second, .val (.long u2), .second, .val (.long u4), .second, .val (.long u6), .second, .val (.long u10), .second, .unset, .unset, .unset, .unset, .unset, .unset, .unset] [])) _
    refine XS.lload X9.here hx rfl (hb hby at_33) rfl ?_
    show Steps p.tables e below (T9.setTop (mkF m 35 #[.val (.long q1), .second, .val (.long q2), .second, .val (.long q3), .second, .val (.long u2), .second, .val (.long u4), .second, .val (.long u6), .second, .val (.long u10), .second, .unset, .unset, .unset, .unset, .unset, .unset, .unset] [(.long u2)])) _
    refine XS.lload X9.here hx rfl (hb hby at_35) rfl ?_
    show Steps p.tables e below (T9.setTop (mkF m 37 #[.val (.long q1), .second, .val (.long q2), .second, .val (.long q3), .second, .val (.long u2), .second, .val (.long u4), .second, .val (.long u6), .second, .val (.long u10), .second, .unset, .unset, .unset, .unset, .unset, .unset, .unset] [(.long u4), (.long u2)])) _
    refine XS.lload X9.here hx rfl (hb hby at_37) rfl ?_
    show Steps p.tables e below (T9.setTop (mkF m 39 #[.val (.long q1), .second, .val (.long q2), .second, .val (.long q3), .second, .val (.long u2), .second, .val (.long u4), .second, .val (.long u6), .second, .val (.long u10), .second, .unset, .unset, .unset, .unset, .unset, .unset, .unset] [(.long u6), (.long u4), (.long u2)])) _
    refine st11 _ ?_
    show Steps p.tables e below (T11.setTop (mkF m 42 #[.val (.long q1), .second, .val (.long q2), .second, .val (.long q3), .second, .val (.long u2), .second, .val (.long u4), .second, .val (.long u6), .second, .val (.long u10), .second, .unset, .unset, .unset, .unset, .unset, .unset, .unset] [(.long u12), (.long u2)])) _
    refine st13 _ ?_
    show Steps p.tables e below (T13.setTop (mkF m 45 #[.val (.long q1), .second, .val (.long q2), .second, .val (.long q3), .second, .val (.long u2), .second, .val (.long u4), .second, .val (.long u6), .second, .val (.long u10), .second, .unset, .unset, .unset, .unset, .unset, .unset, .unset] [(.long u14)])) _
    refine XS.lstore X13.here hx rfl (hb hby at_45) rfl (l' := #[.val (.long q1), .second, .val (.long q2), .second, .val (.long q3), .second, .val (.long u2), .second, .val (.long u4), .second, .val (.long u6), .second, .val (.long u10), .second, .val (.long u14), .second, .unset, .unset, .unset, .unset, .unset]) rfl ?_
    show Steps p.tables e below (T13.setTop (mkF m 47 #[.val (.long q1), .second, .val (.long q2), .second, .val (.long q3), .second, .val (.long u2), .second, .val (.long u4), .second, .val (.long u6), .second, .val (.long u10), .second, .val (.long u14), .second, .unset, .unset, .unset, .unset, .unset] [])) _
    refine XS.lload X13.here hx rfl (hb hby at_47) rfl ?_
    show Steps p.tables e below (T13.setTop (mkF m 49 #[.val (.long q1), .second, .val (.long q2), .second, .val (.long q3), .second, .val (.long u2), .second, .val (.long u4), .second, .val (.long u6), .second, .val (.long u10), .second, .val (.long u14), .second, .unset, .unset, .unset, .unset, .unset] [(.long u2)])) _
    refine XS.lload X13.here hx rfl (hb hby at_49) rfl ?_
    show Steps p.tables e below (T13.setTop (mkF m 51 #[.val (.long q1), .second, .val (.long q2), .second, .val (.long q3), .second, .val (.long u2), .second, .val (.long u4), .second, .val (.long u6), .second, .val (.long u10), .second, .val (.long u14), .second, .unset, .unset, .unset, .unset, .unset] [(.long u4), (.long u2)])) _
    refine st15 _ ?_
    show Steps p.tables e below (T15.setTop (mkF m 54 #[.val (.long q1), .second, .val (.long q2), .second, .val (.long q3), .second, .val (.long u2), .second, .val (.long u4), .second, .val (.long u6), .second, .val (.long u10), .second, .val (.long u14), .second, .unset, .unset, .unset, .unset, .unset] [(.long u16)])) _
    refine XS.lload X15.here hx rfl (hb hby at_54) rfl ?_
    show Steps p.tables e below (T15.setTop (mkF m 56 #[.val (.long q1), .second, .val (.long q2), .second, .val (.long q3), .second, .val (.long u2), .second, .val (.long u4), .second, .val (.long u6), .second, .val (.long u10), .second, .val (.long u14), .second, .unset, .unset, .unset, .unset, .unset] [(.long u2), (.long u16)])) _
    refine XS.lload X15.here hx rfl (hb hby at_56) rfl ?_
    show Steps p.tables e below (T15.setTop (mkF m 58 #[.val (.long q1), .second, .val (.long q2), .second, .val (.long q3), .second, .val (.long u2), .second, .val (.long u4), .second, .val (.long u6), .second, .val (.long u10), .second, .val (.long u14), .second, .unset, .unset, .unset, .unset, .unset] [(.long u4), (.long u2), (.long u16)])) _
    refine st17 _ ?_
    show Steps p.tables e below (T17.setTop (mkF m 61 #[.val (.long q1), .second, .val (.long q2), .second, .val (.long q3), .second, .val (.long u2), .second, .val (.long u4), .second, .val (.long u6), .second, .val (.long u10), .second, .val (.long u14), .second, .unset, .unset, .unset, .unset, .unset] [(.long u18), (.long u16)])) _
    refine XS.lload X17.here hx rfl (hb hby at_61) rfl ?_
    show Steps p.tables e below (T17.setTop (mkF m 63 #[.val (.long q1), .second, .val (.long q2), .second, .val (.long q3), .second, .val (.long u2), .second, .val (.long u4), .second, .val (.long u6), .second, .val (.long u10), .second, .val (.long u14), .second, .unset, .unset, .unset, .unset, .unset] [(.long u6), (.long u18), (.long u16)])) _
    refine st19 _ ?_
    show Steps p.tables e below (T19.setTop (mkF m 66 #[.val (.long q1), .second, .val (.long q2), .second, .val (.long q3), .second, .val (.long u2), .second, .val (.long u4), .second, .val (.long u6), .second, .val (.long u10), .second, .val (.long u14), .second, .unset, .unset, .unset, .unset, .unset] [(.long u20), (.long u16)])) _
    refine st21 _ ?_
    show Steps p.tables e below (T21.setTop (mkF m 69 #[.val (.long q1), .second, .val (.long q2), .second, .val (.long q3), .second, .val (.long u2), .second, .val (.long u4), .second, .val (.long u6), .second, .val (.long u10), .second, .val (.long u14), .second, .unset, .unset, .unset, .unset, .unset] [(.long u22)])) _
    refine XS.lstore X21.here hx rfl (hb hby at_69) rfl (l' := #[.val (.long q1), .second, .val (.long q2), .second, .val (.long q3), .second, .val (.long u2), .second, .val (.long u4), .second, .val (.long u6), .second, .val (.long u10), .second, .val (.long u14), .second, .val (.long u22), .second, .unset, .unset, .unset]) rfl ?_
    show Steps p.tables e below (T21.setTop (mkF m 71 #[.val (.long q1), .second, .val (.long q2), .second, .val (.long q3), .second, .val (.long u2), .second, .val (.long u4), .second, .val (.long u6), .second, .val (.long u10), .second, .val (.long u14), .second, .val (.long u22), .second, .unset, .unset, .unset] [])) _
    refine st23 _ ?_
    show Steps p.tables e below (T23.setTop (mkF m 74 #[.val (.long q1), .second, .val (.long q2), .second, .val (.long q3), .second, .val (.long u2), .second, .val (.long u4), .second, .val (.long u6), .second, .val (.long u10), .second, .val (.long u14), .second, .val (.long u22), .second, .unset, .unset, .unset] [(.ref b23)])) _
    refine XS.dup X23.here hx rfl (hb hby at_74) rfl rfl ?_
    show Steps p.tables e below (T23.setTop (mkF m 75 #[.val (.long q1), .second, .val (.long q2), .second, .val (.long q3), .second, .val (.long u2), .second, .val (.long u4), .second, .val (.long u6), .second, .val (.long u10), .second, .val (.long u14), .second, .val (.long u22), .second, .unset, .unset, .unset] [(.ref b23), (.ref b23)])) _
    refine XS.lload X23.here hx rfl (hb hby at_75) rfl ?_
    show Steps p.tables e below (T23.setTop (mkF m 77 #[.val (.long q1), .second, .val (.long q2), .second, .val (.long q3), .second, .val (.long u2), .second, .val (.long u4), .second, .val (.long u6), .second, .val (.long u10), .second, .val (.long u14), .second, .val (.long u22), .second, .unset, .unset, .unset] [(.long u10), (.ref b23), (.ref b23)])) _
    refine XS.lload X23.here hx rfl (hb hby at_77) rfl ?_
    show Steps p.tables e below (T23.setTop (mkF m 79 #[.val (.long q1), .second, .val (.long q2), .second, .val (.long q3), .second, .val (.long u2), .second, .val (.long u4), .second, .val (.long u6), .second, .val (.long u10), .second, .val (.long u14), .second, .val (.long u22), .second, .unset, .unset, .unset] [(.long u14), (.long u10), (.ref b23), (.ref b23)])) _
    refine st24.trans ?_
    show Steps p.tables e below (T24.setTop (mkF m 82 #[.val (.long q1), .second, .val (.long q2), .second, .val (.long q3), .second, .val (.long u2), .second, .val (.long u4), .second, .val (.long u6), .second, .val (.long u10), .second, .val (.long u14), .second, .val (.long u22), .second, .unset, .unset, .unset] [(.ref b23)])) _
    refine st25.trans ?_
    show Steps p.tables e below (T25.setTop (mkF m 85 #[.val (.long q1), .second, .val (.long q2), .second, .val (.long q3), .second, .val (.long u2), .second, .val (.long u4), .second, .val (.long u6), .second, .val (.long u10), .second, .val (.long u14), .second, .val (.long u22), .second, .unset, .unset, .unset] [(.long (own_len u10 u14))])) _
    rw [← hw26]
    show Steps p.tables e below (T25.setTop (mkF m 85 #[.val (.long q1), .second, .val (.long q2), .second, .val (.long q3), .second, .val (.long u2), .second, .val (.long u4), .second, .val (.long u6), .second, .val (.long u10), .second, .val (.long u14), .second, .val (.long u22), .second, .unset, .unset, .unset] [(.long w26)])) _
    refine XS.lstore X25.here hx rfl (hb hby at_85) rfl (l' := #[.val (.long q1), .second, .val (.long q2), .second, .val (.long q3), .second, .val (.long u2), .second, .val (.long u4), .second, .val (.long u6), .second, .val (.long u10), .second, .val (.long u14), .second, .val (.long u22), .second, .val (.long w26), .second, .unset]) rfl ?_
    show Steps p.tables e below (T25.setTop (mkF m 87 #[.val (.long q1), .second, .val (.long q2), .second, .val (.long q3), .second, .val (.long u2), .second, .val (.long u4), .second, .val (.long u6), .second, .val (.long u10), .second, .val (.long u14), .second, .val (.long u22), .second, .val (.long w26), .second, .unset] [])) _
    refine XS.lload X25.here hx rfl (hb hby at_87) rfl ?_
    show Steps p.tables e below (T25.setTop (mkF m 89 #[.val (.long q1), .second, .val (.long q2), .second, .val (.long q3), .second, .val (.long u2), .second, .val (.long u4), .second, .val (.long u6), .second, .val (.long u10), .second, .val (.long u14), .second, .val (.long u22), .second, .val (.long w26), .second, .unset] [(.long w26)])) _
    refine XS.lconst X25.here hx rfl (hb hby at_89) ?_
    show Steps p.tables e below (T25.setTop (mkF m 90 #[.val (.long q1), .second, .val (.long q2), .second, .val (.long q3), .second, .val (.long u2), .second, .val (.long u4), .second, .val (.long u6), .second, .val (.long u10), .second, .val (.long u14), .second, .val (.long u22), .second, .val (.long w26), .second, .unset] [(.long (1 : Int64)), (.long w26)])) _
    refine XS.lcmp X25.here hx rfl (hb hby at_90) rfl ?_
    show Steps p.tables e below (T25.setTop (mkF m 91 #[.val (.long q1), .second, .val (.long q2), .second, .val (.long q3), .second, .val (.long u2), .second, .val (.long u4), .second, .val (.long u6), .second, .val (.long u10), .second, .val (.long u14), .second, .val (.long u22), .second, .val (.long w26), .second, .unset] [(.int (lcmpW w26 (1 : Int64)))])) _
    refine XS.ifNo X25.here hx rfl (hb hby at_91) rfl ((if0 _ _).trans (flt (fun q => (own_whole hS hw26) ((lw_lt _ _).mp q))).1) ?_
    show Steps p.tables e below (T25.setTop (mkF m 94 #[.val (.long q1), .second, .val (.long q2), .second, .val (.long q3), .second, .val (.long u2), .second, .val (.long u4), .second, .val (.long u6), .second, .val (.long u10), .second, .val (.long u14), .second, .val (.long u22), .second, .val (.long w26), .second, .unset] [])) _
    refine st27 _ ?_
    show Steps p.tables e below (T27.setTop (mkF m 97 #[.val (.long q1), .second, .val (.long q2), .second, .val (.long q3), .second, .val (.long u2), .second, .val (.long u4), .second, .val (.long u6), .second, .val (.long u10), .second, .val (.long u14), .second, .val (.long u22), .second, .val (.long w26), .second, .unset] [(.ref b27)])) _
    refine XS.dup X27.here hx rfl (hb hby at_97) rfl rfl ?_
    show Steps p.tables e below (T27.setTop (mkF m 98 #[.val (.long q1), .second, .val (.long q2), .second, .val (.long q3), .second, .val (.long u2), .second, .val (.long u4), .second, .val (.long u6), .second, .val (.long u10), .second, .val (.long u14), .second, .val (.long u22), .second, .val (.long w26), .second, .unset] [(.ref b27), (.ref b27)])) _
    refine XS.lload X27.here hx rfl (hb hby at_98) rfl ?_
    show Steps p.tables e below (T27.setTop (mkF m 100 #[.val (.long q1), .second, .val (.long q2), .second, .val (.long q3), .second, .val (.long u2), .second, .val (.long u4), .second, .val (.long u6), .second, .val (.long u10), .second, .val (.long u14), .second, .val (.long u22), .second, .val (.long w26), .second, .unset] [(.long u22), (.ref b27), (.ref b27)])) _
    refine XS.lload X27.here hx rfl (hb hby at_100) rfl ?_
    show Steps p.tables e below (T27.setTop (mkF m 102 #[.val (.long q1), .second, .val (.long q2), .second, .val (.long q3), .second, .val (.long u2), .second, .val (.long u4), .second, .val (.long u6), .second, .val (.long u10), .second, .val (.long u14), .second, .val (.long u22), .second, .val (.long w26), .second, .unset] [(.long u22), (.long u22), (.ref b27), (.ref b27)])) _
    refine st28.trans ?_
    show Steps p.tables e below (T28.setTop (mkF m 105 #[.val (.long q1), .second, .val (.long q2), .second, .val (.long q3), .second, .val (.long u2), .second, .val (.long u4), .second, .val (.long u6), .second, .val (.long u10), .second, .val (.long u14), .second, .val (.long u22), .second, .val (.long w26), .second, .unset] [(.ref b27)])) _
    refine st29.trans ?_
    show Steps p.tables e below (T29.setTop (mkF m 108 #[.val (.long q1), .second, .val (.long q2), .second, .val (.long q3), .second, .val (.long u2), .second, .val (.long u4), .second, .val (.long u6), .second, .val (.long u10), .second, .val (.long u14), .second, .val (.long u22), .second, .val (.long w26), .second, .unset] [(.long (own_len u22 u22))])) _
    refine XS.lconst X29.here hx rfl (hb hby at_108) ?_
    show Steps p.tables e below (T29.setTop (mkF m 109 #[.val (.long q1), .second, .val (.long q2), .second, .val (.long q3), .second, .val (.long u2), .second, .val (.long u4), .second, .val (.long u6), .second, .val (.long u10), .second, .val (.long u14), .second, .val (.long u22), .second, .val (.long w26), .second, .unset] [(.long (1 : Int64)), (.long (own_len u22 u22))])) _
    refine XS.lcmp X29.here hx rfl (hb hby at_109) rfl ?_
    show Steps p.tables e below (T29.setTop (mkF m 110 #[.val (.long q1), .second, .val (.long q2), .second, .val (.long q3), .second, .val (.long u2), .second, .val (.long u4), .second, .val (.long u6), .second, .val (.long u10), .second, .val (.long u14), .second, .val (.long u22), .second, .val (.long w26), .second, .unset] [(.int (lcmpW (own_len u22 u22) (1 : Int64)))])) _
    refine XS.ifNo X29.here hx rfl (hb hby at_110) rfl ((if0 _ _).trans (teq ((lw_eq _ _).mpr (own_one hS))).2) ?_
    show Steps p.tables e below (T29.setTop (mkF m 113 #[.val (.long q1), .second, .val (.long q2), .second, .val (.long q3), .second, .val (.long u2), .second, .val (.long u4), .second, .val (.long u6), .second, .val (.long u10), .second, .val (.long u14), .second, .val (.long u22), .second, .val (.long w26), .second, .unset] [])) _
    refine XS.iconst X29.here hx rfl (hb hby at_113) ?_
    show Steps p.tables e below (T29.setTop (mkF m 114 #[.val (.long q1), .second, .val (.long q2), .second, .val (.long q3), .second, .val (.long u2), .second, .val (.long u4), .second, .val (.long u6), .second, .val (.long u10), .second, .val (.long u14), .second, .val (.long u22), .second, .val (.long w26), .second, .unset] [(.int (1 : Int32))])) _
    refine XS.goto X29.here hx rfl (pc0 := 114) (pc' := 118) rfl (hb hby at_114) (by decide) (by decide) ?_
    show Steps p.tables e below (T29.setTop (mkF m 118 #[.val (.long q1), .second, .val (.long q2), .second, .val (.long q3), .second, .val (.long u2), .second, .val (.long u4), .second, .val (.long u6), .second, .val (.long u10), .second, .val (.long u14), .second, .val (.long u22), .second, .val (.long w26), .second, .unset] [(.int (1 : Int32))])) _
    refine XS.istore X29.here hx rfl (hb hby at_118) rfl (l' := #[.val (.long q1), .second, .val (.long q2), .second, .val (.long q3), .second, .val (.long u2), .second, .val (.long u4), .second, .val (.long u6), .second, .val (.long u10), .second, .val (.long u14), .second, .val (.long u22), .second, .val (.long w26), .second, .val (.int (1 : Int32))]) rfl ?_
    show Steps p.tables e below (T29.setTop (mkF m 120 #[.val (.long q1), .second, .val (.long q2), .second, .val (.long q3), .second, .val (.long u2), .second, .val (.long u4), .second, .val (.long u6), .second, .val (.long u10), .second, .val (.long u14), .second, .val (.long u22), .second, .val (.long w26), .second, .val (.int (1 : Int32))] [])) _
    refine XS.lload X29.here hx rfl (hb hby at_120) rfl ?_
    show Steps p.tables e below (T29.setTop (mkF m 122 #[.val (.long q1), .second, .val (.long q2), .second, .val (.long q3), .second, .val (.long u2), .second, .val (.long u4), .second, .val (.long u6), .second, .val (.long u10), .second, .val (.long u14), .second, .val (.long u22), .second, .val (.long w26), .second, .val (.int (1 : Int32))] [(.long u22)])) _
    refine XS.lload X29.here hx rfl (hb hby at_122) rfl ?_
    show Steps p.tables e below (T29.setTop (mkF m 124 #[.val (.long q1), .second, .val (.long q2), .second, .val (.long q3), .second, .val (.long u2), .second, .val (.long u4), .second, .val (.long u6), .second, .val (.long u10), .second, .val (.long u14), .second, .val (.long u22), .second, .val (.long w26), .second, .val (.int (1 : Int32))] [(.long u14), (.long u22)])) _
    refine XS.lcmp X29.here hx rfl (hb hby at_124) rfl ?_
    show Steps p.tables e below (T29.setTop (mkF m 125 #[.val (.long q1), .second, .val (.long q2), .second, .val (.long q3), .second, .val (.long u2), .second, .val (.long u4), .second, .val (.long u6), .second, .val (.long u10), .second, .val (.long u14), .second, .val (.long u22), .second, .val (.long w26), .second, .val (.int (1 : Int32))] [(.int (lcmpW u22 u14))])) _
    refine XS.ifNo X29.here hx rfl (hb hby at_125) rfl ((if0 _ _).trans (tlt ((lw_lt _ _).mpr hp)).2.1) ?_
    show Steps p.tables e below (T29.setTop (mkF m 128 #[.val (.long q1), .second, .val (.long q2), .second, .val (.long q3), .second, .val (.long u2), .second, .val (.long u4), .second, .val (.long u6), .second, .val (.long u10), .second, .val (.long u14), .second, .val (.long u22), .second, .val (.long w26), .second, .val (.int (1 : Int32))] [])) _
    refine XS.iload X29.here hx rfl (hb hby at_128) rfl ?_
    show Steps p.tables e below (T29.setTop (mkF m 130 #[.val (.long q1), .second, .val (.long q2), .second, .val (.long q3), .second, .val (.long u2), .second, .val (.long u4), .second, .val (.long u6), .second, .val (.long u10), .second, .val (.long u14), .second, .val (.long u22), .second, .val (.long w26), .second, .val (.int (1 : Int32))] [(.int (1 : Int32))])) _
    refine XS.ifNo X29.here hx rfl (hb hby at_130) rfl ((if0 _ _).trans (feq (by decide)).1) ?_
    show Steps p.tables e below (T29.setTop (mkF m 133 #[.val (.long q1), .second, .val (.long q2), .second, .val (.long q3), .second, .val (.long u2), .second, .val (.long u4), .second, .val (.long u6), .second, .val (.long u10), .second, .val (.long u14), .second, .val (.long u22), .second, .val (.long w26), .second, .val (.int (1 : Int32))] [])) _
    refine XS.lload X29.here hx rfl (hb hby at_133) rfl ?_
    show Steps p.tables e below (T29.setTop (mkF m 135 #[.val (.long q1), .second, .val (.long q2), .second, .val (.long q3), .second, .val (.long u2), .second, .val (.long u4), .second, .val (.long u6), .second, .val (.long u10), .second, .val (.long u14), .second, .val (.long u22), .second, .val (.long w26), .second, .val (.int (1 : Int32))] [(.long w26)])) _
    refine st30 _ ?_
    show Steps p.tables e below (T30.setTop (mkF m 138 #[.val (.long q1), .second, .val (.long q2), .second, .val (.long q3), .second, .val (.long u2), .second, .val (.long u4), .second, .val (.long u6), .second, .val (.long u10), .second, .val (.long u14), .second, .val (.long u22), .second, .val (.long w26), .second, .val (.int (1 : Int32))] [(.ref b30), (.long w26)])) _
    refine XS.dup X30.here hx rfl (hb hby at_138) rfl rfl ?_
    show Steps p.tables e below (T30.setTop (mkF m 139 #[.val (.long q1), .second, .val (.long q2), .second, .val (.long q3), .second, .val (.long u2), .second, .val (.long u4), .second, .val (.long u6), .second, .val (.long u10), .second, .val (.long u14), .second, .val (.long u22), .second, .val (.long w26), .second, .val (.int (1 : Int32))] [(.ref b30), (.ref b30), (.long w26)])) _
    refine XS.lload X30.here hx rfl (hb hby at_139) rfl ?_
    show Steps p.tables e below (T30.setTop (mkF m 141 #[.val (.long q1), .second, .val (.long q2), .second, .val (.long q3), .second, .val (.long u2), .second, .val (.long u4), .second, .val (.long u6), .second, .val (.long u10), .second, .val (.long u14), .second, .val (.long u22), .second, .val (.long w26), .second, .val (.int (1 : Int32))] [(.long u10), (.ref b30), (.ref b30), (.long w26)])) _
    refine XS.lload X30.here hx rfl (hb hby at_141) rfl ?_
    show Steps p.tables e below (T30.setTop (mkF m 143 #[.val (.long q1), .second, .val (.long q2), .second, .val (.long q3), .second, .val (.long u2), .second, .val (.long u4), .second, .val (.long u6), .second, .val (.long u10), .second, .val (.long u14), .second, .val (.long u22), .second, .val (.long w26), .second, .val (.int (1 : Int32))] [(.long u22), (.long u10), (.ref b30), (.ref b30), (.long w26)])) _
    refine st31.trans ?_
    show Steps p.tables e below (T31.setTop (mkF m 146 #[.val (.long q1), .second, .val (.long q2), .second, .val (.long q3), .second, .val (.long u2), .second, .val (.long u4), .second, .val (.long u6), .second, .val (.long u10), .second, .val (.long u14), .second, .val (.long u22), .second, .val (.long w26), .second, .val (.int (1 : Int32))] [(.ref b30), (.long w26)])) _
    refine st32.trans ?_
    show Steps p.tables e below (T32.setTop (mkF m 149 #[.val (.long q1), .second, .val (.long q2), .second, .val (.long q3), .second, .val (.long u2), .second, .val (.long u4), .second, .val (.long u6), .second, .val (.long u10), .second, .val (.long u14), .second, .val (.long u22), .second, .val (.long w26), .second, .val (.int (1 : Int32))] [(.long (own_len u10 u22)), (.long w26)])) _
    refine st33 _ ?_
    show Steps p.tables e below (T33.setTop (mkF m 152 #[.val (.long q1), .second, .val (.long q2), .second, .val (.long q3), .second, .val (.long u2), .second, .val (.long u4), .second, .val (.long u6), .second, .val (.long u10), .second, .val (.long u14), .second, .val (.long u22), .second, .val (.long w26), .second, .val (.int (1 : Int32))] [(.ref b33), (.long (own_len u10 u22)), (.long w26)])) _
    refine XS.dup X33.here hx rfl (hb hby at_152) rfl rfl ?_
    show Steps p.tables e below (T33.setTop (mkF m 153 #[.val (.long q1), .second, .val (.long q2), .second, .val (.long q3), .second, .val (.long u2), .second, .val (.long u4), .second, .val (.long u6), .second, .val (.long u10), .second, .val (.long u14), .second, .val (.long u22), .second, .val (.long w26), .second, .val (.int (1 : Int32))] [(.ref b33), (.ref b33), (.long (own_len u10 u22)), (.long w26)])) _
    refine XS.lload X33.here hx rfl (hb hby at_153) rfl ?_
    show Steps p.tables e below (T33.setTop (mkF m 155 #[.val (.long q1), .second, .val (.long q2), .second, .val (.long q3), .second, .val (.long u2), .second, .val (.long u4), .second, .val (.long u6), .second, .val (.long u10), .second, .val (.long u14), .second, .val (.long u22), .second, .val (.long w26), .second, .val (.int (1 : Int32))] [(.long u22), (.ref b33), (.ref b33), (.long (own_len u10 u22)), (.long w26)])) _
    refine XS.lconst X33.here hx rfl (hb hby at_155) ?_
    show Steps p.tables e below (T33.setTop (mkF m 156 #[.val (.long q1), .second, .val (.long q2), .second, .val (.long q3), .second, .val (.long u2), .second, .val (.long u4), .second, .val (.long u6), .second, .val (.long u10), .second, .val (.long u14), .second, .val (.long u22), .second, .val (.long w26), .second, .val (.int (1 : Int32))] [(.long (1 : Int64)), (.long u22), (.ref b33), (.ref b33), (.long (own_len u10 u22)), (.long w26)])) _
    refine XS.ladd X33.here hx rfl (hb hby at_156) rfl ?_
    show Steps p.tables e below (T33.setTop (mkF m 157 #[.val (.long q1), .second, .val (.long q2), .second, .val (.long q3), .second, .val (.long u2), .second, .val (.long u4), .second, .val (.long u6), .second, .val (.long u10), .second, .val (.long u14), .second, .val (.long u22), .second, .val (.long w26), .second, .val (.int (1 : Int32))] [(.long (u22 + (1 : Int64))), (.ref b33), (.ref b33), (.long (own_len u10 u22)), (.long w26)])) _
    refine XS.lload X33.here hx rfl (hb hby at_157) rfl ?_
    show Steps p.tables e below (T33.setTop (mkF m 159 #[.val (.long q1), .second, .val (.long q2), .second, .val (.long q3), .second, .val (.long u2), .second, .val (.long u4), .second, .val (.long u6), .second, .val (.long u10), .second, .val (.long u14), .second, .val (.long u22), .second, .val (.long w26), .second, .val (.int (1 : Int32))] [(.long u14), (.long (u22 + (1 : Int64))), (.ref b33), (.ref b33), (.long (own_len u10 u22)), (.long w26)])) _
    refine st34.trans ?_
    show Steps p.tables e below (T34.setTop (mkF m 162 #[.val (.long q1), .second, .val (.long q2), .second, .val (.long q3), .second, .val (.long u2), .second, .val (.long u4), .second, .val (.long u6), .second, .val (.long u10), .second, .val (.long u14), .second, .val (.long u22), .second, .val (.long w26), .second, .val (.int (1 : Int32))] [(.ref b33), (.long (own_len u10 u22)), (.long w26)])) _
    refine st35.trans ?_
    show Steps p.tables e below (T35.setTop (mkF m 165 #[.val (.long q1), .second, .val (.long q2), .second, .val (.long q3), .second, .val (.long u2), .second, .val (.long u4), .second, .val (.long u6), .second, .val (.long u10), .second, .val (.long u14), .second, .val (.long u22), .second, .val (.long w26), .second, .val (.int (1 : Int32))] [(.long (own_len (u22 + (1 : Int64)) u14)), (.long (own_len u10 u22)), (.long w26)])) _
    refine XS.ladd X35.here hx rfl (hb hby at_165) rfl ?_
    show Steps p.tables e below (T35.setTop (mkF m 166 #[.val (.long q1), .second, .val (.long q2), .second, .val (.long q3), .second, .val (.long u2), .second, .val (.long u4), .second, .val (.long u6), .second, .val (.long u10), .second, .val (.long u14), .second, .val (.long u22), .second, .val (.long w26), .second, .val (.int (1 : Int32))] [(.long ((own_len u10 u22) + (own_len (u22 + (1 : Int64)) u14))), (.long w26)])) _
    refine XS.lcmp X35.here hx rfl (hb hby at_166) rfl ?_
    show Steps p.tables e below (T35.setTop (mkF m 167 #[.val (.long q1), .second, .val (.long q2), .second, .val (.long q3), .second, .val (.long u2), .second, .val (.long u4), .second, .val (.long u6), .second, .val (.long u10), .second, .val (.long u14), .second, .val (.long u22), .second, .val (.long w26), .second, .val (.int (1 : Int32))] [(.int (lcmpW w26 ((own_len u10 u22) + (own_len (u22 + (1 : Int64)) u14))))])) _
    refine XS.ifNo X35.here hx rfl (hb hby at_167) rfl ((if0 _ _).trans (teq ((lw_eq _ _).mpr (hw26.trans (own_split hS.1 hS.2.1 hp hS.2.2.2)))).2) ?_
    show Steps p.tables e below (T35.setTop (mkF m 170 #[.val (.long q1), .second, .val (.long q2), .second, .val (.long q3), .second, .val (.long u2), .second, .val (.long u4), .second, .val (.long u6), .second, .val (.long u10), .second, .val (.long u14), .second, .val (.long u22), .second, .val (.long w26), .second, .val (.int (1 : Int32))] [])) _
    refine XS.iconst X35.here hx rfl (hb hby at_170) ?_
    show Steps p.tables e below (T35.setTop (mkF m 171 #[.val (.long q1), .second, .val (.long q2), .second, .val (.long q3), .second, .val (.long u2), .second, .val (.long u4), .second, .val (.long u6), .second, .val (.long u10), .second, .val (.long u14), .second, .val (.long u22), .second, .val (.long w26), .second, .val (.int (1 : Int32))] [(.int (1 : Int32))])) _
    refine XS.goto X35.here hx rfl (pc0 := 171) (pc' := 175) rfl (hb hby at_171) (by decide) (by decide) ?_
    show Steps p.tables e below (T35.setTop (mkF m 175 #[.val (.long q1), .second, .val (.long q2), .second, .val (.long q3), .second, .val (.long u2), .second, .val (.long u4), .second, .val (.long u6), .second, .val (.long u10), .second, .val (.long u14), .second, .val (.long u22), .second, .val (.long w26), .second, .val (.int (1 : Int32))] [(.int (1 : Int32))])) _
    refine XS.istore X35.here hx rfl (hb hby at_175) rfl (l' := #[.val (.long q1), .second, .val (.long q2), .second, .val (.long q3), .second, .val (.long u2), .second, .val (.long u4), .second, .val (.long u6), .second, .val (.long u10), .second, .val (.long u14), .second, .val (.long u22), .second, .val (.long w26), .second, .val (.int (1 : Int32))]) rfl ?_
    show Steps p.tables e below (T35.setTop (mkF m 177 #[.val (.long q1), .second, .val (.long q2), .second, .val (.long q3), .second, .val (.long u2), .second, .val (.long u4), .second, .val (.long u6), .second, .val (.long u10), .second, .val (.long u14), .second, .val (.long u22), .second, .val (.long w26), .second, .val (.int (1 : Int32))] [])) _
    refine XS.goto X35.here hx rfl (pc0 := 177) (pc' := 237) rfl (hb hby at_177) (by decide) (by decide) ?_
    show Steps p.tables e below (T35.setTop (mkF m 237 #[.val (.long q1), .second, .val (.long q2), .second, .val (.long q3), .second, .val (.long u2), .second, .val (.long u4), .second, .val (.long u6), .second, .val (.long u10), .second, .val (.long u14), .second, .val (.long u22), .second, .val (.long w26), .second, .val (.int (1 : Int32))] [])) _
    refine XS.iload X35.here hx rfl (hb hby at_237) rfl ?_
    show Steps p.tables e below (T35.setTop (mkF m 239 #[.val (.long q1), .second, .val (.long q2), .second, .val (.long q3), .second, .val (.long u2), .second, .val (.long u4), .second, .val (.long u6), .second, .val (.long u10), .second, .val (.long u14), .second, .val (.long u22), .second, .val (.long w26), .second, .val (.int (1 : Int32))] [(.int (1 : Int32))])) _
    exact retN X35 hx (t := .boolean) Bd.returns (by simp) (hb hby at_239) hr
  · show own_Q_law Z q1 q2 q3  h0 n0 _ T35.heap _
    exact ⟨rfl, N35⟩
set_option maxRecDepth 65536 in
set_option maxHeartbeats 40000000 in
theorem own_rm_law_b (l : Launch) (Z : State) (a0 : Array Value) (hw : ∀ d ∈ tables_1, d.before a0 Z = true) (ws : List Jvm.Cond) (q1 : Int64) (q2 : Int64) (q3 : Int64)  (h0 : Heap) (n0 : Nat) (Z0 : n0 ≤ h0.size) (hp : ¬ ((own_mx (own_mn (own_pos q1) (own_pos q2)) (own_mn (own_mx (own_pos q1) (own_pos q2)) (own_pos q3))) < (own_mx (own_pos q1) (own_mx (own_pos q2) (own_pos q3))))) (hq : (own_mn (own_pos q1) (own_mn (own_pos q2) (own_pos q3))) < (own_mx (own_pos q1) (own_mx (own_pos q2) (own_pos q3)))) :
    MetFree l x (head1 (Jvm.Cond.code x code maxLocals ret :: ws) room_1) (fun a U => a = #[(.long q1), (.long q2), (.long q3)] ∧ Z.Warmed39 U.vm ∧ U.heap = h0) (fun _ _ _ _ _ => True) (fun _ U o U' => ∃ v L, o = .returned v ∧ own_Q_law Z q1 q2 q3  h0 n0 v U'.heap L ∧ FrameEnd U o U' L room_1.cells room_1.slots) := by
  refine MetFree.of_bodySF (plainFor_of_name own_pn0) hisR ?_
  intro p e s m args below meth c s₁ Bd hml0 hP hK
  obtain ⟨rfl, hZ, hh⟩ := hP
  have hx := Bd.exec
  have hby := Bd.bytes
  have hml : c.maxLocals = 21 := hml0
  have hown : s.vm.findClass "com/example/beamhall/beamhall/hub/ByteRangeLengthPinLaw" = some m.cls := findClass_of_methodNamed Bd.named
  have hnm := (name_of_methodNamed Bd.named Bd.method).1
  have X0 : Stand p l e room_1 s m #[(.long q1), (.long q2), (.long q3)] below meth c s₁ [] 0 0 := Stand.of_body Bd
  have e0 : s₁.heap = h0 := by rw [← hh, Bd.state]; rfl
  have N0 := Fr.nil n0
  have pre0 : ∀ t, Steps p.tables e below (s₁.setTop (mkF m 0 #[.val (.long q1), .second, .val (.long q2), .second, .val (.long q3), .second, .unset, .unset, .unset, .unset, .unset, .unset, .unset, .unset, .unset, .unset, .unset, .unset, .unset, .unset, .unset] [])) t → Steps p.tables e below (s₁.setTop (entryFrame m #[(.long q1), (.long q2), (.long q3)] maxLocals)) t := fun t k => castTop (own_ef_law m q1 q2 q3) k
  obtain ⟨_, _, ⟨T1, L1, k1, n1⟩, -, X1, ⟨Lc1, hQ1, l1, y1, z1⟩, st1⟩ := Jvm.LawKit.callS X0 hx (y := (⟨"com/example/beamhall/beamhall/hub/ByteRangeLengthPinLaw", "pos", "(J)J"⟩ : MethodName)) hown (mvT hZ (hw _ (List.mem_of_getElem? (i := 0) rfl))) (mvT hZ (hw _ (List.mem_of_getElem? (i := 1) rfl))) (mvT hZ (hw _ (List.mem_of_getElem? (i := 2) rfl))) (mvT hZ (hw _ (List.mem_of_getElem? (i := 3) rfl))) (by decide) (backOf (W := 0) (own_rm_pos l Z a0 hw [] q1 h0 n0 Z0) hZ (hw _ (List.mem_of_getElem? (i := 3) rfl)) (hw _ (List.mem_of_getElem? (i := 2) rfl)) (by decide) (by decide)) (g := (mkF m 1 #[.val (.long q1), .second, .val (.long q2), .second, .val (.long q3), .second, .unset, .unset, .unset, .unset, .unset, .unset, .unset, .unset, .unset, .unset, .unset, .unset, .unset, .unset, .unset] [(.long q1)])) rfl (by rw [hml]; rfl) (argsL := [(.long q1)]) (rest := []) (lenOf own_pd1 rfl) rfl (by show 2 * 0 + _ ≤ _; exact Nat.le_of_eq rfl) (hb hby at_1) (fun _ _ => ⟨rfl, e0, (by decide : 0 + 0 ≤ _), (by decide : 0 + 0 ≤ _)⟩)
  dsimp only [Pt.U, Pt.locs, Pt.cells, Pt.slots] at X1 l1 y1 z1 st1 hQ1
  subst l1 y1 z1
  obtain ⟨rfl, N1q, e1q⟩ := hQ1
  have N1 := Fr.app N0 N1q
  have Z1 : n0 ≤ T1.heap.size := by rw [e1q]; exact Z0
  obtain ⟨u2, hu2⟩ : ∃ z : Int64, z = (own_pos q1) := ⟨_, rfl⟩
  rw [← hu2] at st1
  obtain ⟨_, _, ⟨T3, L3, k3, n3⟩, -, X3, ⟨Lc3, hQ3, l3, y3, z3⟩, st3⟩ := Jvm.LawKit.callS X1 hx (y := (⟨"com/example/beamhall/beamhall/hub/ByteRangeLengthPinLaw", "pos", "(J)J"⟩ : MethodName)) hown (mvT hZ (hw _ (List.mem_of_getElem? (i := 0) rfl))) (mvT hZ (hw _ (List.mem_of_getElem? (i := 1) rfl))) (mvT hZ (hw _ (List.mem_of_getElem? (i := 2) rfl))) (mvT hZ (hw _ (List.mem_of_getElem? (i := 3) rfl))) (by decide) (backOf (W := 0) (own_rm_pos l Z a0 hw [] q2 T1.heap n0 Z1) hZ (hw _ (List.mem_of_getElem? (i := 3) rfl)) (hw _ (List.mem_of_getElem? (i := 2) rfl)) (by decide) (by decide)) (g := (mkF m 7 #[.val (.long q1), .second, .val (.long q2), .second, .val (.long q3), .second, .val (.long u2), .second, .unset, .unset, .unset, .unset, .unset, .unset, .unset, .unset, .unset, .unset, .unset, .unset, .unset] [(.long q2)])) rfl (by rw [hml]; rfl) (argsL := [(.long q2)]) (rest := []) (lenOf own_pd1 rfl) rfl (by show 2 * 0 + _ ≤ _; exact Nat.le_of_eq rfl) (hb hby at_7) (fun _ _ => ⟨rfl, rfl, (by decide : 0 + 0 ≤ _), (by decide : 0 + 0 ≤ _)⟩)
  dsimp only [Pt.U, Pt.locs, Pt.cells, Pt.slots] at X3 l3 y3 z3 st3 hQ3
  subst l3 y3 z3
  obtain ⟨rfl, N3q, e3q⟩ := hQ3
  have N3 := Fr.app N1 N3q
  have Z3 : n0 ≤ T3.heap.size := by rw [e3q]; exact Z1
  obtain ⟨u4, hu4⟩ : ∃ z : Int64, z = (own_pos q2) := ⟨_, rfl⟩
  rw [← hu4] at st3
  obtain ⟨_, _, ⟨T5, L5, k5, n5⟩, -, X5, ⟨Lc5, hQ5, l5, y5, z5⟩, st5⟩ := Jvm.LawKit.callS X3 hx (y := (⟨"com/example/beamhall/beamhall/hub/ByteRangeLengthPinLaw", "pos", "(J)J"⟩ : MethodName)) hown (mvT hZ (hw _ (List.mem_of_getElem? (i := 0) rfl))) (mvT hZ (hw _ (List.mem_of_getElem? (i := 1) rfl))) (mvT hZ (hw _ (List.mem_of_getElem? (i := 2) rfl))) (mvT hZ (hw _ (List.mem_of_getElem? (i := 3) rfl))) (by decide) (backOf (W := 0) (own_rm_pos l Z a0 hw [] q3 T3.heap n0 Z3) hZ (hw _ (List.mem_of_getElem? (i := 3) rfl)) (hw _ (List.mem_of_getElem? (i := 2) rfl)) (by decide) (by decide)) (g := (mkF m 14 #[.val (.long q1), .second, .val (.long q2), .second, .val (.long q3), .second, .val (.long u2), .second, .val (.long u4), .second, .unset, .unset, .unset, .unset, .unset, .unset, .unset, .unset, .unset, .unset, .unset] [(.long q3)])) rfl (by rw [hml]; rfl) (argsL := [(.long q3)]) (rest := []) (lenOf own_pd1 rfl) rfl (by show 2 * 0 + _ ≤ _; exact Nat.le_of_eq rfl) (hb hby at_14) (fun _ _ => ⟨rfl, rfl, (by decide : 0 + 0 ≤ _), (by decide : 0 + 0 ≤ _)⟩)
  dsimp only [Pt.U, Pt.locs, Pt.cells, Pt.slots] at X5 l5 y5 z5 st5 hQ5
  subst l5 y5 z5
  obtain ⟨rfl, N5q, e5q⟩ := hQ5
  have N5 := Fr.app N3 N5q
  have Z5 : n0 ≤ T5.heap.size := by rw [e5q]; exact Z3
  obtain ⟨u6, hu6⟩ : ∃ z : Int64, z = (own_pos q3) := ⟨_, rfl⟩
  rw [← hu6] at st5
  obtain ⟨_, _, ⟨T7, L7, k7, n7⟩, -, X7, ⟨Lc7, hQ7, l7, y7, z7⟩, st7⟩ := Jvm.LawKit.callS X5 hx (y := (⟨"java/lang/Math", "min", "(JJ)J"⟩ : MethodName)) hown (mvT hZ (hw _ (List.mem_of_getElem? (i := 5) rfl))) (mvT hZ (hw _ (List.mem_of_getElem? (i := 6) rfl))) (mvT hZ (hw _ (List.mem_of_getElem? (i := 7) rfl))) (mvT hZ (hw _ (List.mem_of_getElem? (i := 8) rfl))) (by decide) (backOf (W := 2) (own_rm_min l Z a0 hw [] u4 u6 T5.heap n0 Z5) hZ (hw _ (List.mem_of_getElem? (i := 8) rfl)) (hw _ (List.mem_of_getElem? (i := 7) rfl)) (by decide) (by decide)) (g := (mkF m 25 #[.val (.long q1), .second, .val (.long q2), .second, .val (.long q3), .second, .val (.long u2), .second, .val (.long u4), .second, .val (.long u6), .second, .unset, .unset, .unset, .unset, .unset, .unset, .unset, .unset, .unset] [(.long u6), (.long u4), (.long u2)])) rfl (by rw [hml]; rfl) (argsL := [(.long u4), (.long u6)]) (rest := [(.long u2)]) (lenOf own_pd2 rfl) rfl (by show 2 * 0 + _ ≤ _; exact Nat.le_of_eq rfl) (hb hby at_25) (fun _ _ => ⟨rfl, rfl, (by decide : 0 + 0 ≤ _), (by decide : 0 + 0 ≤ _)⟩)
  dsimp only [Pt.U, Pt.locs, Pt.cells, Pt.slots] at X7 l7 y7 z7 st7 hQ7
  subst l7 y7 z7
  obtain ⟨rfl, N7q, e7q⟩ := hQ7
  have N7 := Fr.app N5 N7q
  have Z7 : n0 ≤ T7.heap.size := by rw [e7q]; exact Z5
  obtain ⟨u8, hu8⟩ : ∃ z : Int64, z = (own_mn u4 u6) := ⟨_, rfl⟩
  rw [← hu8] at st7
  obtain ⟨_, _, ⟨T9, L9, k9, n9⟩, -, X9, ⟨Lc9, hQ9, l9, y9, z9⟩, st9⟩ := Jvm.LawKit.callS X7 hx (y := (⟨"java/lang/Math", "min", "(JJ)J"⟩ : MethodName)) hown (mvT hZ (hw _ (List.mem_of_getElem? (i := 5) rfl))) (mvT hZ (hw _ (List.mem_of_getElem? (i := 6) rfl))) (mvT hZ (hw _ (List.mem_of_getElem? (i := 7) rfl))) (mvT hZ (hw _ (List.mem_of_getElem? (i := 8) rfl))) (by decide) (backOf (W := 0) (own_rm_min l Z a0 hw [] u2 u8 T7.heap n0 Z7) hZ (hw _ (List.mem_of_getElem? (i := 8) rfl)) (hw _ (List.mem_of_getElem? (i := 7) rfl)) (by decide) (by decide)) (g := (mkF m 28 #[.val (.long q1), .second, .val (.long q2), .second, .val (.long q3), .second, .val (.long u2), .second, .val (.long u4), .second, .val (.long u6), .second, .unset, .unset, .unset, .unset, .unset, .unset, .unset, .unset, .unset] [(.long u8), (.long u2)])) rfl (by rw [hml]; rfl) (argsL := [(.long u2), (.long u8)]) (rest := []) (lenOf own_pd2 rfl) rfl (by show 2 * 0 + _ ≤ _; exact Nat.le_of_eq rfl) (hb hby at_28) (fun _ _ => ⟨rfl, rfl, (by decide : 0 + 0 ≤ _), (by decide : 0 + 0 ≤ _)⟩)
  dsimp only [Pt.U, Pt.locs, Pt.cells, Pt.slots] at X9 l9 y9 z9 st9 hQ9
  subst l9 y9 z9
  obtain ⟨rfl, N9q, e9q⟩ := hQ9
  have N9 := Fr.app N7 N9q
  have Z9 : n0 ≤ T9.heap.size := by rw [e9q]; exact Z7
  obtain ⟨u10, hu10⟩ : ∃ z : Int64, z = (own_mn u2 u8) := ⟨_, rfl⟩
  rw [← hu10] at st9
  obtain ⟨_, _, ⟨T11, L11, k11, n11⟩, -, X11, ⟨Lc11, hQ11, l11, y11, z11⟩, st11⟩ := Jvm.LawKit.callS X9 hx (y := (⟨"java/lang/Math", "max", "(JJ)J"⟩ : MethodName)) hown (mvT hZ (hw _ (List.mem_of_getElem? (i := 9) rfl))) (mvT hZ (hw _ (List.mem_of_getElem? (i := 10) rfl))) (mvT hZ (hw _ (List.mem_of_getElem? (i := 7) rfl))) (mvT hZ (hw _ (List.mem_of_getElem? (i := 11) rfl))) (by decide) (backOf (W := 2) (own_rm_max l Z a0 hw [] u4 u6 T9.heap n0 Z9) hZ (hw _ (List.mem_of_getElem? (i := 11) rfl)) (hw _ (List.mem_of_getElem? (i := 7) rfl)) (by decide) (by decide)) (g := (mkF m 39 #[.val (.long q1), .second, .val (.long q2), .second, .val (.long q3), .second, .val (.long u2), .second, .val (.long u4), .second, .val (.long u6), .second, .val (.long u10), .second, .unset, .unset, .unset, .unset, .unset, .unset, .unset] [(.long u6), (.long u4), (.long u2)])) rfl (by rw [hml]; rfl) (argsL := [(.long u4), (.long u6)]) (rest := [(.long u2)]) (lenOf own_pd2 rfl) rfl (by show 2 * 0 + _ ≤ _; exact Nat.le_of_eq rfl) (hb hby at_39) (fun _ _ => ⟨rfl, rfl, (by decide : 0 + 0 ≤ _), (by decide : 0 + 0 ≤ _)⟩)
  dsimp only [Pt.U, Pt.locs, Pt.cells, Pt.slots] at X11 l11 y11 z11 st11 hQ11
  subst l11 y11 z11
  obtain ⟨rfl, N11q, e11q⟩ := hQ11
  have N11 := Fr.app N9 N11q
  have Z11 : n0 ≤ T11.heap.size := by rw [e11q]; exact Z9
  obtain ⟨u12, hu12⟩ : ∃ z : Int64, z = (own_mx u4 u6) := ⟨_, rfl⟩
  rw [← hu12] at st11
  obtain ⟨_, _, ⟨T13, L13, k13, n13⟩, -, X13, ⟨Lc13, hQ13, l13, y13, z13⟩, st13⟩ := Jvm.LawKit.callS X11 hx (y := (⟨"java/lang/Math", "max", "(JJ)J"⟩ : MethodName)) hown (mvT hZ (hw _ (List.mem_of_getElem? (i := 9) rfl))) (mvT hZ (hw _ (List.mem_of_getElem? (i := 10) rfl))) (mvT hZ (hw _ (List.mem_of_getElem? (i := 7) rfl))) (mvT hZ (hw _ (List.mem_of_getElem? (i := 11) rfl))) (by decide) (backOf (W := 0) (own_rm_max l Z a0 hw [] u2 u12 T11.heap n0 Z11) hZ (hw _ (List.mem_of_getElem? (i := 11) rfl)) (hw _ (List.mem_of_getElem? (i := 7) rfl)) (by decide) (by decide)) (g := (mkF m 42 #[.val (.long q1), .second, .val (.long q2), .second, .val (.long q3), .second, .val (.long u2), .second, .val (.long u4), .second, .val (.long u6), .second, .val (.long u10), .second, .unset, .unset, .unset, .unset, .unset, .unset, .unset] [(.long u12), (.long u2)])) rfl (by rw [hml]; rfl) (argsL := [(.long u2), (.long u12)]) (rest := []) (lenOf own_pd2 rfl) rfl (by show 2 * 0 + _ ≤ _; exact Nat.le_of_eq rfl) (hb hby at_42) (fun _ _ => ⟨rfl, rfl, (by decide : 0 + 0 ≤ _), (by decide : 0 + 0 ≤ _)⟩)
  dsimp only [Pt.U, Pt.locs, Pt.cells, Pt.slots] at X13 l13 y13 z13 st13 hQ13
  subst l13 y13 z13
  obtain ⟨rfl, N13q, e13q⟩ := hQ13
  have N13 := Fr.app N11 N13q
  have Z13 : n0 ≤ T13.heap.size := by rw [e13q]; exact Z11
  obtain ⟨u14, hu14⟩ : ∃ z : Int64, z = (own_mx u2 u12) := ⟨_, rfl⟩
  rw [← hu14] at st13
  obtain ⟨_, _, ⟨T15, L15, k15, n15⟩, -, X15, ⟨Lc15, hQ15, l15, y15, z15⟩, st15⟩ := Jvm.LawKit.callS X13 hx (y := (⟨"java/lang/Math", "min", "(JJ)J"⟩ : MethodName)) hown (mvT hZ (hw _ (List.mem_of_getElem? (i := 5) rfl))) (mvT hZ (hw _ (List.mem_of_getElem? (i := 6) rfl))) (mvT hZ (hw _ (List.mem_of_getElem? (i := 7) rfl))) (mvT hZ (hw _ (List.mem_of_getElem? (i := 8) rfl))) (by decide) (backOf (W := 0) (own_rm_min l Z a0 hw [] u2 u4 T13.heap n0 Z13) hZ (hw _ (List.mem_of_getElem? (i := 8) rfl)) (hw _ (List.mem_of_getElem? (i := 7) rfl)) (by decide) (by decide)) (g := (mkF m 51 #[.val (.long q1), .second, .val (.long q2), .second, .val (.long q3), .second, .val (.long u2), .second, .val (.long u4), .second, .val (.long u6), .second, .val (.long u10), .second, .val (.long u14), .second, .unset, .unset, .unset, .unset, .unset] [(.long u4), (.long u2)])) rfl (by rw [hml]; rfl) (argsL := [(.long u2), (.long u4)]) (rest := []) (lenOf own_pd2 rfl) rfl (by show 2 * 0 + _ ≤ _; exact Nat.le_of_eq rfl) (hb hby at_51) (fun _ _ => ⟨rfl, rfl, (by decide : 0 + 0 ≤ _), (by decide : 0 + 0 ≤ _)⟩)
  dsimp only [Pt.U, Pt.locs, Pt.cells, Pt.slots] at X15 l15 y15 z15 st15 hQ15
  subst l15 y15 z15
  obtain ⟨rfl, N15q, e15q⟩ := hQ15
  have N15 := Fr.app N13 N15q
  have Z15 : n0 ≤ T15.heap.size := by rw [e15q]; exact Z13
  obtain ⟨u16, hu16⟩ : ∃ z : Int64, z = (own_mn u2 u4) := ⟨_, rfl⟩
  rw [← hu16] at st15
  obtain ⟨_, _, ⟨T17, L17, k17, n17⟩, -, X17, ⟨Lc17, hQ17, l17, y17, z17⟩, st17⟩ := Jvm.LawKit.callS X15 hx (y := (⟨"java/lang/Math", "max", "(JJ)J"⟩ : MethodName)) hown (mvT hZ (hw _ (List.mem_of_getElem? (i := 9) rfl))) (mvT hZ (hw _ (List.mem_of_getElem? (i := 10) rfl))) (mvT hZ (hw _ (List.mem_of_getElem? (i := 7) rfl))) (mvT hZ (hw _ (List.mem_of_getElem? (i := 11) rfl))) (by decide) (backOf (W := 2) (own_rm_max l Z a0 hw [] u2 u4 T15.heap n0 Z15) hZ (hw _ (List.mem_of_getElem? (i := 11) rfl)) (hw _ (List.mem_of_getElem? (i := 7) rfl)) (by decide) (by decide)) (g := (mkF m 58 #[.val (.long q1), .second, .val (.long q2), .second, .val (.long q3), .second, .val (.long u2), .second, .val (.long u4), .second, .val (.long u6), .second, .val (.long u10), .second, .val (.long u14), .second, .unset, .unset, .unset, .unset, .unset] [(.long u4), (.long u2), (.long u16)])) rfl (by rw [hml]; rfl) (argsL := [(.long u2), (.long u4)]) (rest := [(.long u16)]) (lenOf own_pd2 rfl) rfl (by show 2 * 0 + _ ≤ _; exact Nat.le_of_eq rfl) (hb hby at_58) (fun _ _ => ⟨rfl, rfl, (by decide : 0 + 0 ≤ _), (by decide : 0 + 0 ≤ _)⟩)
  dsimp only [Pt.U, Pt.locs, Pt.cells, Pt.slots] at X17 l17 y17 z17 st17 hQ17
  subst l17 y17 z17
  obtain ⟨rfl, N17q, e17q⟩ := hQ17
  have N17 := Fr.app N15 N17q
  have Z17 : n0 ≤ T17.heap.size := by rw [e17q]; exact Z15
  obtain ⟨u18, hu18⟩ : ∃ z : Int64, z = (own_mx u2 u4) := ⟨_, rfl⟩
  rw [← hu18] at st17
  obtain ⟨_, _, ⟨T19, L19, k19, n19⟩, -, X19, ⟨Lc19, hQ19, l19, y19, z19⟩, st19⟩ := Jvm.LawKit.callS X17 hx (y := (⟨"java/lang/Math", "min", "(JJ)J"⟩ : MethodName)) hown (mvT hZ (hw _ (List.mem_of_getElem? (i := 5) rfl))) (mvT hZ (hw _ (List.mem_of_getElem? (i := 6) rfl))) (mvT hZ (hw _ (List.mem_of_getElem? (i := 7) rfl))) (mvT hZ (hw _ (List.mem_of_getElem? (i := 8) rfl))) (by decide) (backOf (W := 2) (own_rm_min l Z a0 hw [] u18 u6 T17.heap n0 Z17) hZ (hw _ (List.mem_of_getElem? (i := 8) rfl)) (hw _ (List.mem_of_getElem? (i := 7) rfl)) (by decide) (by decide)) (g := (mkF m 63 #[.val (.long q1), .second, .val (.long q2), .second, .val (.long q3), .second, .val (.long u2), .second, .val (.long u4), .second, .val (.long u6), .second, .val (.long u10), .second, .val (.long u14), .second, .unset, .unset, .unset, .unset, .unset] [(.long u6), (.long u18), (.long u16)])) rfl (by rw [hml]; rfl) (argsL := [(.long u18), (.long u6)]) (rest := [(.long u16)]) (lenOf own_pd2 rfl) rfl (by show 2 * 0 + _ ≤ _; exact Nat.le_of_eq rfl) (hb hby at_63) (fun _ _ => ⟨rfl, rfl, (by decide : 0 + 0 ≤ _), (by decide : 0 + 0 ≤ _)⟩)
  dsimp only [Pt.U, Pt.locs, Pt.cells, Pt.slots] at X19 l19 y19 z19 st19 hQ19
  subst l19 y19 z19
  obtain ⟨rfl, N19q, e19q⟩ := hQ19
  have N19 := Fr.app N17 N19q
  have Z19 : n0 ≤ T19.heap.size := by rw [e19q]; exact Z17
  obtain ⟨u20, hu20⟩ : ∃ z : Int64, z = (own_mn u18 u6) := ⟨_, rfl⟩
  rw [← hu20] at st19
  obtain ⟨_, _, ⟨T21, L21, k21, n21⟩, -, X21, ⟨Lc21, hQ21, l21, y21, z21⟩, st21⟩ := Jvm.LawKit.callS X19 hx (y := (⟨"java/lang/Math", "max", "(JJ)J"⟩ : MethodName)) hown (mvT hZ (hw _ (List.mem_of_getElem? (i := 9) rfl))) (mvT hZ (hw _ (List.mem_of_getElem? (i := 10) rfl))) (mvT hZ (hw _ (List.mem_of_getElem? (i := 7) rfl))) (mvT hZ (hw _ (List.mem_of_getElem? (i := 11) rfl))) (by decide) (backOf (W := 0) (own_rm_max l Z a0 hw [] u16 u20 T19.heap n0 Z19) hZ (hw _ (List.mem_of_getElem? (i := 11) rfl)) (hw _ (List.mem_of_getElem? (i := 7) rfl)) (by decide) (by decide)) (g := (mkF m 66 #[.val (.long q1), .second, .val (.long q2), .second, .val (.long q3), .second, .val (.long u2), .second, .val (.long u4), .second, .val (.long u6), .second, .val (.long u10), .second, .val (.long u14), .second, .unset, .unset, .unset, .unset, .unset] [(.long u20), (.long u16)])) rfl (by rw [hml]; rfl) (argsL := [(.long u16), (.long u20)]) (rest := []) (lenOf own_pd2 rfl) rfl (by show 2 * 0 + _ ≤ _; exact Nat.le_of_eq rfl) (hb hby at_66) (fun _ _ => ⟨rfl, rfl, (by decide : 0 + 0 ≤ _), (by decide : 0 + 0 ≤ _)⟩)
  dsimp only [Pt.U, Pt.locs, Pt.cells, Pt.slots] at X21 l21 y21 z21 st21 hQ21
  subst l21 y21 z21
  obtain ⟨rfl, N21q, e21q⟩ := hQ21
  have N21 := Fr.app N19 N21q
  have Z21 : n0 ≤ T21.heap.size := by rw [e21q]; exact Z19
  obtain ⟨u22, hu22⟩ : ∃ z : Int64, z = (own_mx u16 u20) := ⟨_, rfl⟩
  rw [← hu22] at st21
  have eu10 : u10 = (own_mn (own_pos q1) (own_mn (own_pos q2) (own_pos q3))) := by simp only [hu10, hu8, hu6, hu4, hu2]
  have eu14 : u14 = (own_mx (own_pos q1) (own_mx (own_pos q2) (own_pos q3))) := by simp only [hu14, hu12, hu10, hu8, hu6, hu4, hu2]
  have eu22 : u22 = (own_mx (own_mn (own_pos q1) (own_pos q2)) (own_mn (own_mx (own_pos q1) (own_pos q2)) (own_pos q3))) := by simp only [hu22, hu20, hu18, hu16, hu14, hu12, hu10, hu8, hu6, hu4, hu2]
  rw [← eu14, ← eu22] at hp
  rw [← eu10, ← eu14] at hq
  have hS := own_sorted (by rw [hu2]; exact own_pos_bounds _) (by rw [hu4]; exact own_pos_bounds _) (by rw [hu6]; exact own_pos_bounds _) hu8 hu10 hu12 hu14 hu16 hu18 hu20 hu22
  obtain ⟨T23, h23, X23, e23, E23, A23, D23, -, st23⟩ := newO X21 hx hZ hown (hw _ (List.mem_of_getElem? (i := 12) rfl)) (hw _ (List.mem_of_getElem? (i := 13) rfl)) (hw _ (List.mem_of_getElem? (i := 14) rfl)) rfl (g := (mkF m 71 #[.val (.long q1), .second, .val (.long q2), .second, .val (.long q3), .second, .val (.long u2), .second, .val (.long u4), .second, .val (.long u6), .second, .val (.long u10), .second, .val (.long u14), .second, .val (.long u22), .second, .unset, .unset, .unset] [])) rfl (hb hby at_71) (by decide) (by decide)
  obtain ⟨b23, g23⟩ : ∃ z, z = T21.heap.size := ⟨_, rfl⟩
  rw [← g23] at A23 D23 st23
  have g_b23 : n0 ≤ b23 := Nat.le_trans Z21 (Nat.le_of_eq g23.symm)
  have Z23 := Nat.le_trans Z21 E23.1
  have F23_first : Fld Z h23 b23 "com/example/beamhall/beamhall/hub/ByteRange" "first" "J" (.long (0 : Int64)) := D23 (Or.inr (hw _ (List.mem_of_getElem? (i := 27) rfl))) (ty := .long) (by decide)
  have F23_last : Fld Z h23 b23 "com/example/beamhall/beamhall/hub/ByteRange" "last" "J" (.long (0 : Int64)) := D23 (Or.inr (hw _ (List.mem_of_getElem? (i := 29) rfl))) (ty := .long) (by decide)
  obtain ⟨_, _, ⟨T24, L24, k24, n24⟩, -, X24, ⟨Lc24, hQ24, l24, y24, z24⟩, st24⟩ := X23.specialBack hx (y := (⟨"com/example/beamhall/beamhall/hub/ByteRange", "<init>", "(JJ)V"⟩ : MethodName)) rfl hown (mvT hZ (hw _ (List.mem_of_getElem? (i := 15) rfl))) (mvT hZ (hw _ (List.mem_of_getElem? (i := 16) rfl))) (mvT hZ (hw _ (List.mem_of_getElem? (i := 17) rfl))) (by decide) (backOf (W := 1) (own_rm_init l Z a0 hw [] b23 u10 u14 h23 n0 Z23 A23 F23_first F23_last g_b23) hZ (hw _ (List.mem_of_getElem? (i := 17) rfl)) (hw _ (List.mem_of_getElem? (i := 14) rfl)) (by decide) (by decide)) (g := (mkF m 79 #[.val (.long q1), .second, .val (.long q2), .second, .val (.long q3), .second, .val (.long u2), .second, .val (.long u4), .second, .val (.long u6), .second, .val (.long u10), .second, .val (.long u14), .second, .val (.long u22), .second, .unset, .unset, .unset] [(.long u14), (.long u10), (.ref b23), (.ref b23)])) rfl (by rw [hml]; rfl) (Steps.refl _) (a := b23) (argsL := [(.long u10), (.long u14)]) (rest := [(.ref b23)]) (lenOf own_pd3 rfl) rfl (by show 2 * 0 + _ ≤ _; exact Nat.le_of_eq rfl) (hb hby at_79) (fun _ _ => ⟨rfl, e23, (by decide : 1 + 0 ≤ _), (by decide : 2 + 0 ≤ _)⟩)
  dsimp only [Pt.U, Pt.locs, Pt.cells, Pt.slots] at X24 l24 y24 z24 st24 hQ24
  subst l24 y24 z24
  obtain ⟨rfl, N24q, Eq24, Ff24, Fl24, Zq24⟩ := hQ24
  have N24 := Fr.app N21 N24q
  obtain ⟨cq25, kq25, q25a, q25b, q25c⟩ := isOf hZ rfl Eq24
  obtain ⟨_, _, ⟨T25, L25, k25, n25⟩, -, X25, ⟨Lc25, hQ25, l25, y25, z25⟩, st25⟩ := X24.virtualBack hx (y := (⟨"com/example/beamhall/beamhall/hub/ByteRange", "length", "()J"⟩ : MethodName)) (z := (⟨"com/example/beamhall/beamhall/hub/ByteRange", "length", "()J"⟩ : MethodName)) hown (mvT hZ (hw _ (List.mem_of_getElem? (i := 30) rfl))) (mvT hZ (hw _ (List.mem_of_getElem? (i := 31) rfl))) (notFace_of_selects (args := #[]) (mvT hZ (hw _ (List.mem_of_getElem? (i := 33) rfl)))) (mvT hZ (hw _ (List.mem_of_getElem? (i := 33) rfl))) (mvT hZ (hw _ (List.mem_of_getElem? (i := 32) rfl))) (by decide) (backOf (W := 0) (own_rm_len l Z a0 hw [] b23 u10 u14 T24.heap n0 Zq24 Ff24 Fl24) hZ (hw _ (List.mem_of_getElem? (i := 34) rfl)) (hw _ (List.mem_of_getElem? (i := 14) rfl)) (by decide) (by decide)) q25a q25c (g := (mkF m 82 #[.val (.long q1), .second, .val (.long q2), .second, .val (.long q3), .second, .val (.long u2), .second, .val (.long u4), .second, .val (.long u6), .second, .val (.long u10), .second, .val (.long u14), .second, .val (.long u22), .second, .unset, .unset, .unset] [(.ref b23)])) rfl (by rw [hml]; rfl) (Steps.refl _) (argsL := []) (rest := []) (lenOf own_pd4 rfl) rfl (by show 2 * 0 + _ ≤ _; exact Nat.le_of_eq rfl) (hb hby at_82) (fun _ _ => ⟨rfl, rfl, (by decide : 1 + 0 ≤ _), (by decide : 2 + 0 ≤ _)⟩)
  dsimp only [Pt.U, Pt.locs, Pt.cells, Pt.slots] at X25 l25 y25 z25 st25 hQ25
  subst l25 y25 z25
  obtain ⟨rfl, N25q, e25q⟩ := hQ25
  have N25 := Fr.app N24 N25q
  have E25_b23 : Exa Z T25.heap b23 "com/example/beamhall/beamhall/hub/ByteRange" := by rw [e25q]; exact Eq24
  have Fs25_b23_first : Fld Z T25.heap b23 "com/example/beamhall/beamhall/hub/ByteRange" "first" "J" (.long u10) := by rw [e25q]; exact Ff24
  have Fs25_b23_last : Fld Z T25.heap b23 "com/example/beamhall/beamhall/hub/ByteRange" "last" "J" (.long u14) := by rw [e25q]; exact Fl24
  have Z25 : n0 ≤ T25.heap.size := by rw [e25q]; exact Zq24
  obtain ⟨w26, hw26⟩ : ∃ z : Int64, z = (own_len u10 u14) := ⟨_, rfl⟩
  obtain ⟨T27, h27, X27, e27, E27, A27, D27, -, st27⟩ := newO X25 hx hZ hown (hw _ (List.mem_of_getElem? (i := 12) rfl)) (hw _ (List.mem_of_getElem? (i := 13) rfl)) (hw _ (List.mem_of_getElem? (i := 14) rfl)) rfl (g := (mkF m 94 #[.val (.long q1), .second, .val (.long q2), .second, .val (.long q3), .second, .val (.long u2), .second, .val (.long u4), .second, .val (.long u6), .second, .val (.long u10), .second, .val (.long u14), .second, .val (.long u22), .second, .val (.long w26), .second, .unset] [])) rfl (hb hby at_94) (by decide) (by decide)
  obtain ⟨b27, g27⟩ : ∃ z, z = T25.heap.size := ⟨_, rfl⟩
  rw [← g27] at A27 D27 st27
  have g_b27 : n0 ≤ b27 := Nat.le_trans Z25 (Nat.le_of_eq g27.symm)
  have Z27 := Nat.le_trans Z25 E27.1
  have F27_first : Fld Z h27 b27 "com/example/beamhall/beamhall/hub/ByteRange" "first" "J" (.long (0 : Int64)) := D27 (Or.inr (hw _ (List.mem_of_getElem? (i := 27) rfl))) (ty := .long) (by decide)
  have F27_last : Fld Z h27 b27 "com/example/beamhall/beamhall/hub/ByteRange" "last" "J" (.long (0 : Int64)) := D27 (Or.inr (hw _ (List.mem_of_getElem? (i := 29) rfl))) (ty := .long) (by decide)
  obtain ⟨_, _, ⟨T28, L28, k28, n28⟩, -, X28, ⟨Lc28, hQ28, l28, y28, z28⟩, st28⟩ := X27.specialBack hx (y := (⟨"com/example/beamhall/beamhall/hub/ByteRange", "<init>", "(JJ)V"⟩ : MethodName)) rfl hown (mvT hZ (hw _ (List.mem_of_getElem? (i := 15) rfl))) (mvT hZ (hw _ (List.mem_of_getElem? (i := 16) rfl))) (mvT hZ (hw _ (List.mem_of_getElem? (i := 17) rfl))) (by decide) (backOf (W := 1) (own_rm_init l Z a0 hw [] b27 u22 u22 h27 n0 Z27 A27 F27_first F27_last g_b27) hZ (hw _ (List.mem_of_getElem? (i := 17) rfl)) (hw _ (List.mem_of_getElem? (i := 14) rfl)) (by decide) (by decide)) (g := (mkF m 102 #[.val (.long q1), .second, .val (.long q2), .second, .val (.long q3), .second, .val (.long u2), .second, .val (.long u4), .second, .val (.long u6), .second, .val (.long u10), .second, .val (.long u14), .second, .val (.long u22), .second, .val (.long w26), .second, .unset] [(.long u22), (.long u22), (.ref b27), (.ref b27)])) rfl (by rw [hml]; rfl) (Steps.refl _) (a := b27) (argsL := [(.long u22), (.long u22)]) (rest := [(.ref b27)]) (lenOf own_pd3 rfl) rfl (by show 2 * 0 + _ ≤ _; exact Nat.le_of_eq rfl) (hb hby at_102) (fun _ _ => ⟨rfl, e27, (by decide : 2 + 0 ≤ _), (by decide : 4 + 0 ≤ _)⟩)
  dsimp only [Pt.U, Pt.locs, Pt.cells, Pt.slots] at X28 l28 y28 z28 st28 hQ28
  subst l28 y28 z28
  obtain ⟨rfl, N28q, Eq28, Ff28, Fl28, Zq28⟩ := hQ28
  have N28 := Fr.app N25 N28q
  obtain ⟨cq29, kq29, q29a, q29b, q29c⟩ := isOf hZ rfl Eq28
  obtain ⟨_, _, ⟨T29, L29, k29, n29⟩, -, X29, ⟨Lc29, hQ29, l29, y29, z29⟩, st29⟩ := X28.virtualBack hx (y := (⟨"com/example/beamhall/beamhall/hub/ByteRange", "length", "()J"⟩ : MethodName)) (z := (⟨"com/example/beamhall/beamhall/hub/ByteRange", "length", "()J"⟩ : MethodName)) hown (mvT hZ (hw _ (List.mem_of_getElem? (i := 30) rfl))) (mvT hZ (hw _ (List.mem_of_getElem? (i := 31) rfl))) (notFace_of_selects (args := #[]) (mvT hZ (hw _ (List.mem_of_getElem? (i := 33) rfl)))) (mvT hZ (hw _ (List.mem_of_getElem? (i := 33) rfl))) (mvT hZ (hw _ (List.mem_of_getElem? (i := 32) rfl))) (by decide) (backOf (W := 0) (own_rm_len l Z a0 hw [] b27 u22 u22 T28.heap n0 Zq28 Ff28 Fl28) hZ (hw _ (List.mem_of_getElem? (i := 34) rfl)) (hw _ (List.mem_of_getElem? (i := 14) rfl)) (by decide) (by decide)) q29a q29c (g := (mkF m 105 #[.val (.long q1), .second, .val (.long q2), .second, .val (.long q3), .second, .val (.long u2), .second, .val (.long u4), .second, .val (.long u6), .second, .val (.long u10), .second, .val (.long u14), .second, .val (.long u22), .second, .val (.long w26), .second, .unset] [(.ref b27)])) rfl (by rw [hml]; rfl) (Steps.refl _) (argsL := []) (rest := []) (lenOf own_pd4 rfl) rfl (by show 2 * 0 + _ ≤ _; exact Nat.le_of_eq rfl) (hb hby at_105) (fun _ _ => ⟨rfl, rfl, (by decide : 2 + 0 ≤ _), (by decide : 4 + 0 ≤ _)⟩)
  dsimp only [Pt.U, Pt.locs, Pt.cells, Pt.slots] at X29 l29 y29 z29 st29 hQ29
  subst l29 y29 z29
  obtain ⟨rfl, N29q, e29q⟩ := hQ29
  have N29 := Fr.app N28 N29q
  have E29_b27 : Exa Z T29.heap b27 "com/example/beamhall/beamhall/hub/ByteRange" := by rw [e29q]; exact Eq28
  have Fs29_b27_first : Fld Z T29.heap b27 "com/example/beamhall/beamhall/hub/ByteRange" "first" "J" (.long u22) := by rw [e29q]; exact Ff28
  have Fs29_b27_last : Fld Z T29.heap b27 "com/example/beamhall/beamhall/hub/ByteRange" "last" "J" (.long u22) := by rw [e29q]; exact Fl28
  have Z29 : n0 ≤ T29.heap.size := by rw [e29q]; exact Zq28
  obtain ⟨T30, h30, X30, e30, E30, A30, D30, -, st30⟩ := newO X29 hx hZ hown (hw _ (List.mem_of_getElem? (i := 12) rfl)) (hw _ (List.mem_of_getElem? (i := 13) rfl)) (hw _ (List.mem_of_getElem? (i := 14) rfl)) rfl (g := (mkF m 195 #[.val (.long q1), .second, .val (.long q2), .second, .val (.long q3), .second, .val (.long u2), .second, .val (.long u4), .second, .val (.long u6), .second, .val (.long u10), .second, .val (.long u14), .second, .val (.long u22), .second, .val (.long w26), .second, .val (.int (1 : Int32))] [(.long w26)])) rfl (hb hby at_195) (by decide) (by decide)
  obtain ⟨b30, g30⟩ : ∃ z, z = T29.heap.size := ⟨_, rfl⟩
  rw [← g30] at A30 D30 st30
  have g_b30 : n0 ≤ b30 := Nat.le_trans Z29 (Nat.le_of_eq g30.symm)
  have Z30 := Nat.le_trans Z29 E30.1
  have F30_first : Fld Z h30 b30 "com/example/beamhall/beamhall/hub/ByteRange" "first" "J" (.long (0 : Int64)) := D30 (Or.inr (hw _ (List.mem_of_getElem? (i := 27) rfl))) (ty := .long) (by decide)
  have F30_last : Fld Z h30 b30 "com/example/beamhall/beamhall/hub/ByteRange" "last" "J" (.long (0 : Int64)) := D30 (Or.inr (hw _ (List.mem_of_getElem? (i := 29) rfl))) (ty := .long) (by decide)
  obtain ⟨_, _, ⟨T31, L31, k31, n31⟩, -, X31, ⟨Lc31, hQ31, l31, y31, z31⟩, st31⟩ := X30.specialBack hx (y := (⟨"com/example/beamhall/beamhall/hub/ByteRange", "<init>", "(JJ)V"⟩ : MethodName)) rfl hown (mvT hZ (hw _ (List.mem_of_getElem? (i := 15) rfl))) (mvT hZ (hw _ (List.mem_of_getElem? (i := 16) rfl))) (mvT hZ (hw _ (List.mem_of_getElem? (i := 17) rfl))) (by decide) (backOf (W := 3) (own_rm_init l Z a0 hw [] b30 u10 u10 h30 n0 Z30 A30 F30_first F30_last g_b30) hZ (hw _ (List.mem_of_getElem? (i := 17) rfl)) (hw _ (List.mem_of_getElem? (i := 14) rfl)) (by decide) (by decide)) (g := (mkF m 203 #[.val (.long q1), .second, .val (.long q2), .second, .val (.long q3), .second, .val (.long u2), .second, .val (.long u4), .second, .val (.long u6), .second, .val (.long u10), .second, .val (.long u14), .second, .val (.long u22), .second, .val (.long w26), .second, .val (.int (1 : Int32))] [(.long u10), (.long u10), (.ref b30), (.ref b30), (.long w26)])) rfl (by rw [hml]; rfl) (Steps.refl _) (a := b30) (argsL := [(.long u10), (.long u10)]) (rest := [(.ref b30), (.long w26)]) (lenOf own_pd3 rfl) rfl (by show 2 * 0 + _ ≤ _; exact Nat.le_of_eq rfl) (hb hby at_203) (fun _ _ => ⟨rfl, e30, (by decide : 3 + 0 ≤ _), (by decide : 6 + 0 ≤ _)⟩)
  dsimp only [Pt.U, Pt.locs, Pt.cells, Pt.slots] at X31 l31 y31 z31 st31 hQ31
  subst l31 y31 z31
  obtain ⟨rfl, N31q, Eq31, Ff31, Fl31, Zq31⟩ := hQ31
  have N31 := Fr.app N29 N31q
  obtain ⟨cq32, kq32, q32a, q32b, q32c⟩ := isOf hZ rfl Eq31
  obtain ⟨_, _, ⟨T32, L32, k32, n32⟩, -, X32, ⟨Lc32, hQ32, l32, y32, z32⟩, st32⟩ := X31.virtualBack hx (y := (⟨"com/example/beamhall/beamhall/hub/ByteRange", "length", "()J"⟩ : MethodName)) (z := (⟨"com/example/beamhall/beamhall/hub/ByteRange", "length", "()J"⟩ : MethodName)) hown (mvT hZ (hw _ (List.mem_of_getElem? (i := 30) rfl))) (mvT hZ (hw _ (List.mem_of_getElem? (i := 31) rfl))) (notFace_of_selects (args := #[]) (mvT hZ (hw _ (List.mem_of_getElem? (i := 33) rfl)))) (mvT hZ (hw _ (List.mem_of_getElem? (i := 33) rfl))) (mvT hZ (hw _ (List.mem_of_getElem? (i := 32) rfl))) (by decide) (backOf (W := 2) (own_rm_len l Z a0 hw [] b30 u10 u10 T31.heap n0 Zq31 Ff31 Fl31) hZ (hw _ (List.mem_of_getElem? (i := 34) rfl)) (hw _ (List.mem_of_getElem? (i := 14) rfl)) (by decide) (by decide)) q32a q32c (g := (mkF m 206 #[.val (.long q1), .second, .val (.long q2), .second, .val (.long q3), .second, .val (.long u2), .second, .val (.long u4), .second, .val (.long u6), .second, .val (.long u10), .second, .val (.long u14), .second, .val (.long u22), .second, .val (.long w26), .second, .val (.int (1 : Int32))] [(.ref b30), (.long w26)])) rfl (by rw [hml]; rfl) (Steps.refl _) (argsL := []) (rest := [(.long w26)]) (lenOf own_pd4 rfl) rfl (by show 2 * 0 + _ ≤ _; exact Nat.le_of_eq rfl) (hb hby at_206) (fun _ _ => ⟨rfl, rfl, (by decide : 3 + 0 ≤ _), (by decide : 6 + 0 ≤ _)⟩)
  dsimp only [Pt.U, Pt.locs, Pt.cells, Pt.slots] at X32 l32 y32 z32 st32 hQ32
  subst l32 y32 z32
  obtain ⟨rfl, N32q, e32q⟩ := hQ32
  have N32 := Fr.app N31 N32q
  have E32_b30 : Exa Z T32.heap b30 "com/example/beamhall/beamhall/hub/ByteRange" := by rw [e32q]; exact Eq31
  have Fs32_b30_first : Fld Z T32.heap b30 "com/example/beamhall/beamhall/hub/ByteRange" "first" "J" (.long u10) := by rw [e32q]; exact Ff31
  have Fs32_b30_last : Fld Z T32.heap b30 "com/example/beamhall/beamhall/hub/ByteRange" "last" "J" (.long u10) := by rw [e32q]; exact Fl31
  have Z32 : n0 ≤ T32.heap.size := by rw [e32q]; exact Zq31
  obtain ⟨T33, h33, X33, e33, E33, A33, D33, -, st33⟩ := newO X32 hx hZ hown (hw _ (List.mem_of_getElem? (i := 12) rfl)) (hw _ (List.mem_of_getElem? (i := 13) rfl)) (hw _ (List.mem_of_getElem? (i := 14) rfl)) rfl (g := (mkF m 209 #[.val (.long q1), .second, .val (.long q2), .second, .val (.long q3), .second, .val (.long u2), .second, .val (.long u4), .second, .val (.long u6), .second, .val (.long u10), .second, .val (.long u14), .second, .val (.long u22), .second, .val (.long w26), .second, .val (.int (1 : Int32))] [(.long (own_len u10 u10)), (.long w26)])) rfl (hb hby at_209) (by decide) (by decide)
  obtain ⟨b33, g33⟩ : ∃ z, z = T32.heap.size := ⟨_, rfl⟩
  rw [← g33] at A33 D33 st33
  have g_b33 : n0 ≤ b33 := Nat.le_trans Z32 (Nat.le_of_eq g33.symm)
  have Z33 := Nat.le_trans Z32 E33.1
  have F33_first : Fld Z h33 b33 "com/example/beamhall/beamhall/hub/ByteRange" "first" "J" (.long (0 : Int64)) := D33 (Or.inr (hw _ (List.mem_of_getElem? (i := 27) rfl))) (ty := .long) (by decide)
  have F33_last : Fld Z h33 b33 "com/example/beamhall/beamhall/hub/ByteRange" "last" "J" (.long (0 : Int64)) := D33 (Or.inr (hw _ (List.mem_of_getElem? (i := 29) rfl))) (ty := .long) (by decide)
  obtain ⟨_, _, ⟨T34, L34, k34, n34⟩, -, X34, ⟨Lc34, hQ34, l34, y34, z34⟩, st34⟩ := X33.specialBack hx (y := (⟨"com/example/beamhall/beamhall/hub/ByteRange", "<init>", "(JJ)V"⟩ : MethodName)) rfl hown (mvT hZ (hw _ (List.mem_of_getElem? (i := 15) rfl))) (mvT hZ (hw _ (List.mem_of_getElem? (i := 16) rfl))) (mvT hZ (hw _ (List.mem_of_getElem? (i := 17) rfl))) (by decide) (backOf (W := 5) (own_rm_init l Z a0 hw [] b33 (u10 + (1 : Int64)) u14 h33 n0 Z33 A33 F33_first F33_last g_b33) hZ (hw _ (List.mem_of_getElem? (i := 17) rfl)) (hw _ (List.mem_of_getElem? (i := 14) rfl)) (by decide) (by decide)) (g := (mkF m 219 #[.val (.long q1), .second, .val (.long q2), .second, .val (.long q3), .second, .val (.long u2), .second, .val (.long u4), .second, .val (.long u6), .second, .val (.long u10), .second, .val (.long u14), .second, .val (.long u22), .second, .val (.long w26), .second, .val (.int (1 : Int32))] [(.long u14), (.long (u10 + (1 : Int64))), (.ref b33), (.ref b33), (.long (own_len u10 u10)), (.long w26)])) rfl (by rw [hml]; rfl) (Steps.refl _) (a := b33) (argsL := [(.long (u10 + (1 : Int64))), (.long u14)]) (rest := [(.ref b33), (.long (own_len u10 u10)), (.long w26)]) (lenOf own_pd3 rfl) rfl (by show 2 * 0 + _ ≤ _; exact Nat.le_of_eq rfl) (hb hby at_219) (fun _ _ => ⟨rfl, e33, (by decide : 4 + 0 ≤ _), (by decide : 8 + 0 ≤ _)⟩)
  dsimp only [Pt.U, Pt.locs, Pt.cells, Pt.slots] at X34 l34 y34 z34 st34 hQ34
  subst l34 y34 z34
  obtain ⟨rfl, N34q, Eq34, Ff34, Fl34, Zq34⟩ := hQ34
  have N34 := Fr.app N32 N34q
  obtain ⟨cq35, kq35, q35a, q35b, q35c⟩ := isOf hZ rfl Eq34
  obtain ⟨_, _, ⟨T35, L35, k35, n35⟩, -, X35, ⟨Lc35, hQ35, l35, y35, z35⟩, st35⟩ := X34.virtualBack hx (y := (⟨"com/example/beamhall/beamhall/hub/ByteRange", "length", "()J"⟩ : MethodName)) (z := (⟨"com/example/beamhall/beamhall/hub/ByteRange", "length", "()J"⟩ : MethodName)) hown (mvT hZ (hw _ (List.mem_of_getElem? (i := 30) rfl))) (mvT hZ (hw _ (List.mem_of_getElem? (i := 31) rfl))) (notFace_of_selects (args := #[]) (mvT hZ (hw _ (List.mem_of_getElem? (i := 33) rfl)))) (mvT hZ (hw _ (List.mem_of_getElem? (i := 33) rfl))) (mvT hZ (hw _ (List.mem_of_getElem? (i := 32) rfl))) (by decide) (backOf (W := 4) (own_rm_len l Z a0 hw [] b33 (u10 + (1 : Int64)) u14 T34.heap n0 Zq34 Ff34 Fl34) hZ (hw _ (List.mem_of_getElem? (i := 34) rfl)) (hw _ (List.mem_of_getElem? (i := 14) rfl)) (by decide) (by decide)) q35a q35c (g := (mkF m 222 #[.val (.long q1), .second, .val (.long q2), .second, .val (.long q3), .second, .val (.long u2), .second, .val (.long u4), .second, .val (.long u6), .second, .val (.long u10), .second, .val (.long u14), .second, .val (.long u22), .second, .val (.long w26), .second, .val (.int (1 : Int32))] [(.ref b33), (.long (own_len u10 u10)), (.long w26)])) rfl (by rw [hml]; rfl) (Steps.refl _) (argsL := []) (rest := [(.long (own_len u10 u10)), (.long w26)]) (lenOf own_pd4 rfl) rfl (by show 2 * 0 + _ ≤ _; exact Nat.le_of_eq rfl) (hb hby at_222) (fun _ _ => ⟨rfl, rfl, (by decide : 4 + 0 ≤ _), (by decide : 8 + 0 ≤ _)⟩)
  dsimp only [Pt.U, Pt.locs, Pt.cells, Pt.slots] at X35 l35 y35 z35 st35 hQ35
  subst l35 y35 z35
  obtain ⟨rfl, N35q, e35q⟩ := hQ35
  have N35 := Fr.app N34 N35q
  have E35_b33 : Exa Z T35.heap b33 "com/example/beamhall/beamhall/hub/ByteRange" := by rw [e35q]; exact Eq34
  have Fs35_b33_first : Fld Z T35.heap b33 "com/example/beamhall/beamhall/hub/ByteRange" "first" "J" (.long (u10 + (1 : Int64))) := by rw [e35q]; exact Ff34
  have Fs35_b33_last : Fld Z T35.heap b33 "com/example/beamhall/beamhall/hub/ByteRange" "last" "J" (.long u14) := by rw [e35q]; exact Fl34
  have Z35 : n0 ≤ T35.heap.size := by rw [e35q]; exact Zq34
  obtain ⟨fs, hr, hrun, hended, hW, hsame⟩ := X35.leave (v := some (.int (1 : Int32))) (fun h => by rw [Bd.returns] at h; cases h)
  refine ⟨_, _, pre0 _ ?_, hrun, hended, _, _, rfl, ?_, ⟨_, rfl⟩, hW, hsame.mono (by decide) (by decide)⟩
  · show Steps p.tables e below (s₁.setTop (mkF m 0 #[.val (.long q1), .second, .val (.long q2), .second, .val (.long q3), .second, .unset, .unset, .unset, .unset, .unset, .unset, .unset, .unset, .unset, .unset, .unset, .unset, .unset, .unset, .unset] [])) _
    refine XS.lloadN X0.here hx rfl (hb hby at_0) rfl ?_
    show Steps p.tables e below (s₁.setTop (mkF m 1 #[.val (.long q1), .second, .val (.long q2), .second, .val (.long q3), .second, .unset, .unset, .unset, .unset, .unset, .unset, .unset, .unset, .unset, .unset, .unset, .unset, .unset, .unset, .unset] [(.long q1)])) _
    refine st1 _ ?_
    show Steps p.tables e below (T1.setTop (mkF m 4 #[.val (.long q1), .second, .val (.long q2), .second, .val (.long q3), .second, .unset, .unset, .unset, .unset, .unset, .unset, .unset, .unset, .unset, .unset, .unset, .unset, .unset, .unset, .unset] [(.long u2)])) _
    refine XS.lstore X1.here hx rfl (hb hby at_4) rfl (l' := #[.val (.long q1), .second, .val (.long q2), .second, .val (.long q3), .second, .val (.long u2), .second, .unset, .unset, .unset, .unset, .unset, .unset, .unset, .unset, .unset, .unset, .unset, .unset, .unset]) rfl ?_
    show Steps p.tables e below (T1.setTop (mkF m 6 #[.val (.long q1), .second, .val (.long q2), .second, .val (.long q3), .second, .val (.long u2), .second, .unset, .unset, .unset, .unset, .unset, .unset, .unset, .unset, .unset, .unset, .unset, .unset, .unset] [])) _
    refine XS.lloadN X1.here hx rfl (hb hby at_6) rfl ?_
    show Steps p.tables e below (T1.setTop (mkF m 7 #[.val (.long q1), .second, .val (.long q2), .second, .val (.long q3), .second, .val (.long u2), .second, .unset, .unset, .unset, .unset, .unset, .unset, .unset, .unset, .unset, .unset, .unset, .unset, .unset] [(.long q2)])) _
    refine st3 _ ?_
    show Steps p.tables e below (T3.setTop (mkF m 10 #[.val (.long q1), .second, .val (.long q2), .second, .val (.long q3), .second, .val (.long u2), .second, .unset, .unset, .unset, .unset, .unset, .unset, .unset, .unset, .unset, .unset, .unset, .unset, .unset] [(.long u4)])) _
    refine XS.lstore X3.here hx rfl (hb hby at_10) rfl (l' := #[.val (.long q1), .second, .val (.long q2), .second, .val (.long q3), .second, .val (.long u2), .second, .val (.long u4), .second, .unset, .unset, .unset, .unset, .unset, .unset, .unset, .unset, .unset, .unset, .unset]) rfl ?_
    show Steps p.tables e below (T3.setTop (mkF m 12 #[.val (.long q1), .second, .val (.long q2), .second, .val (.long q3), .second, .val (.long u2), .second, .val (.long u4), .second, .unset, .unset, .unset, .unset, .unset, .unset, .unset, .unset, .unset, .unset, .unset] [])) _
    refine XS.lload X3.here hx rfl (hb hby at_12) rfl ?_
    show Steps p.tables e below (T3.setTop (mkF m 14 #[.val (.long q1), .second, .val (.long q2), .second, .val (.long q3), .second, .val (.long u2), .second, .val (.long u4), .second, .unset, .unset, .unset, .unset, .unset, .unset, .unset, .unset, .unset, .unset, .unset] [(.long q3)])) _
    refine st5 _ ?_
    show Steps p.tables e below (T5.setTop (mkF m 17 #[.val (.long q1), .second, .val (.long q2), .second, .val (.long q3), .second, .val (.long u2), .second, .val (.long u4), .second, .unset, .unset, .unset, .unset, .unset, .unset, .unset, .unset, .unset, .unset, .unset] [(.long u6)])) _
    refine XS.lstore X5.here hx rfl (hb hby at_17) rfl (l' := #[.val (.long q1), .second, .val (.long q2), .second, .val (.long q3), .second, .val (.long u2), .second, .val (.long u4), .second, .val (.long u6), .second, .unset, .unset, .unset, .unset, .unset, .unset, .unset, .unset, .unset]) rfl ?_
    show Steps p.tables e below (T5.setTop (mkF m 19 #[.val (.long q1), .second, .val (.long q2), .second, .val (.long q3), .second, .val (.long u2), .second, .val (.long u4), .second, .val (.long u6), .second, .unset, .unset, .unset, .unset, .unset, .unset, .unset, .unset, .unset] [])) _
    refine XS.lload X5.here hx rfl (hb hby at_19) rfl ?_
    show Steps p.tables e below (T5.setTop (mkF m 21 #[.val (.long q1), .second, .val (.long q2), .second, .val (.long q3), .second, .val (.long u2), .second, .val (.long u4), .second, .val (.long u6), .second, .unset, .unset, .unset, .unset, .unset, .unset, .unset, .unset, .unset] [(.long u2)])) _
    refine XS.lload X5.here hx rfl (hb hby at_21) rfl ?_
    show Steps p.tables e below (T5.setTop (mkF m 23 #[.val (.long q1), .second, .val (.long q2), .second, .val (.long q3), .second, .val (.long u2), .second, .val (.long u4), .second, .val (.long u6), .second, .unset, .unset, .unset, .unset, .unset, .unset, .unset, .unset, .unset] [(.long u4), (.long u2)])) _
    refine XS.lload X5.here hx rfl (hb hby at_23) rfl ?_
    show Steps p.tables e below (T5.setTop (mkF m 25 #[.val (.long q1), .second, .val (.long q2), .second, .val (.long q3), .second, .val (.long u2), .second, .val (.long u4), .second, .val (.long u6), .second, .unset, .unset, .unset, .unset, .unset, .unset, .unset, .unset, .unset] [(.long u6), (.long u4), (.long u2)])) _
    refine st7 _ ?_
    show Steps p.tables e below (T7.setTop (mkF m 28 #[.val (.long q1), .second, .val (.long q2), .second, .val (.long q3), .second, .val (.long u2), .second, .val (.long u4), .second, .val (.long u6), .second, .unset, .unset, .unset, .unset, .unset, .unset, .unset, .unset, .unset] [(.long u8), (.long u2)])) _
    refine st9 _ ?_
    show Steps p.tables e below (T9.setTop (mkF m 31 #[.val (.long q1), .second, .val (.long q2), .second, .val (.long q3), .second, .val (.long u2), .second, .val (.long u4), .second, .val (.long u6), .second, .unset, .unset, .unset, .unset, .unset, .unset, .unset, .unset, .unset] [(.long u10)])) _
    refine XS.lstore X9.here hx rfl (hb hby at_31) rfl (l' := #[.val (.long q1), .second, .val (.long q2), .second, .val (.long q3), .second, .val (.long u2), .second, .val (.long u4), .second, .val (.long u6), .second, .val (.long u10), .second, .unset, .unset, .unset, .unset, .unset, .unset, .unset]) rfl ?_
    show Steps p.tables e below (T9.setTop (mkF m 33 #[.val (.long q1), .second, .val (.long q2), .second, .val (.long q3), .second, .val (.long u2), .second, .val (.long u4), .second, .val (.long u6), .second, .val (.long u10), .second, .unset, .unset, .unset, .unset, .unset, .unset, .unset] [])) _
    refine XS.lload X9.here hx rfl (hb hby at_33) rfl ?_
    show Steps p.tables e below (T9.setTop (mkF m 35 #[.val (.long q1), .second, .val (.long q2), .second, .val (.long q3), .second, .val (.long u2), .second, .val (.long u4), .second, .val (.long u6), .second, .val (.long u10), .second, .unset, .unset, .unset, .unset, .unset, .unset, .unset] [(.long u2)])) _
    refine XS.lload X9.here hx rfl (hb hby at_35) rfl ?_
    show Steps p.tables e below (T9.setTop (mkF m 37 #[.val (.long q1), .second, .val (.long q2), .second, .val (.long q3), .second, .val (.long u2), .second, .val (.long u4), .second, .val (.long u6), .second, .val (.long u10), .second, .unset, .unset, .unset, .unset, .unset, .unset, .unset] [(.long u4), (.long u2)])) _
    refine XS.lload X9.here hx rfl (hb hby at_37) rfl ?_
    show Steps p.tables e below (T9.setTop (mkF m 39 #[.val (.long q1), .second, .val (.long q2), .second, .val (.long q3), .second, .val (.long u2), .second, .val (.long u4), .second, .val (.long u6), .second, .val (.long u10), .second, .unset, .unset, .unset, .unset, .unset, .unset, .unset] [(.long u6), (.long u4), (.long u2)])) _
    refine st11 _ ?_
    show Steps p.tables e below (T11.setTop (mkF m 42 #[.val (.long q1), .second, .val (.long q2), .second, .val (.long q3), .second, .val (.long u2), .second, .val (.long u4), .second, .val (.long u6), .second, .val (.long u10), .second, .unset, .unset, .unset, .unset, .unset, .unset, .unset] [(.long u12), (.long u2)])) _
    refine st13 _ ?_
    show Steps p.tables e below (T13.setTop (mkF m 45 #[.val (.long q1), .second, .val (.long q2), .second, .val (.long q3), .second, .val (.long u2), .second, .val (.long u4), .second, .val (.long u6), .second, .val (.long u10), .second, .unset, .unset, .unset, .unset, .unset, .unset, .unset] [(.long u14)])) _
    refine XS.lstore X13.here hx rfl (hb hby at_45) rfl (l' := #[.val (.long q1), .second, .val (.long q2), .second, .val (.long q3), .second, .val (.long u2), .second, .val (.long u4), .second, .val (.long u6), .second, .val (.long u10), .second, .val (.long u14), .second, .unset, .unset, .unset, .unset, .unset]) rfl ?_
    show Steps p.tables e below (T13.setTop (mkF m 47 #[.val (.long q1), .second, .val (.long q2), .second, .val (.long q3), .second, .val (.long u2), .second, .val (.long u4), .second, .val (.long u6), .second, .val (.long u10), .second, .val (.long u14), .second, .unset, .unset, .unset, .unset, .unset] [])) _
    refine XS.lload X13.here hx rfl (hb hby at_47) rfl ?_
    show Steps p.tables e below (T13.setTop (mkF m 49 #[.val (.long q1), .second, .val (.long q2), .second, .val (.long q3), .second, .val (.long u2), .second, .val (.long u4), .second, .val (.long u6), .second, .val (.long u10), .second, .val (.long u14), .second, .unset, .unset, .unset, .unset, .unset] [(.long u2)])) _
    refine XS.lload X13.here hx rfl (hb hby at_49) rfl ?_
    show Steps p.tables e below (T13.setTop (mkF m 51 #[.val (.long q1), .second, .val (.long q2), .second, .val (.long q3), .second, .val (.long u2), .second, .val (.long u4), .second, .val (.long u6), .second, .val (.long u10), .second, .val (.long u14), .second, .unset, .unset, .unset, .unset, .unset] [(.long u4), (.long u2)])) _
    refine st15 _ ?_
    show Steps p.tables e below (T15.setTop (mkF m 54 #[.val (.long q1), .second, .val (.long q2), .second, .val (.long q3), .second, .val (.long u2), .second, .val (.long u4), .second, .val (.long u6), .second, .val (.long u10), .second, .val (.long u14), .second, .unset, .unset, .unset, .unset, .unset] [(.long u16)])) _
    refine XS.lload X15.here hx rfl (hb hby at_54) rfl ?_
    show Steps p.tables e below (T15.setTop (mkF m 56 #[.val (.long q1), .second, .val (.long q2), .second, .val (.long q3), .second, .val (.long u2), .second, .val (.long u4), .second, .val (.long u6), .second, .val (.long u10), .second, .val (.long u14), .second, .unset, .unset, .unset, .unset, .unset] [(.long u2), (.long u16)])) _
    refine XS.lload X15.here hx rfl (hb hby at_56) rfl ?_
    show Steps p.tables e below (T15.setTop (mkF m 58 #[.val (.long q1), .second, .val (.long q2), .second, .val (.long q3), .second, .val (.long u2), .second, .val (.long u4), .second, .val (.long u6), .second, .val (.long u10), .second, .val (.long u14), .second, .unset, .unset, .unset, .unset, .unset] [(.long u4), (.long u2), (.long u16)])) _
    refine st17 _ ?_
    show Steps p.tables e below (T17.setTop (mkF m 61 #[.val (.long q1), .second, .val (.long q2), .second, .val (.long q3), .second, .val (.long u2), .second, .val (.long u4), .second, .val (.long u6), .second, .val (.long u10), .second, .val (.long u14), .second, .unset, .unset, .unset, .unset, .unset] [(.long u18), (.long u16)])) _
    refine XS.lload X17.here hx rfl (hb hby at_61) rfl ?_
    show Steps p.tables e below (T17.setTop (mkF m 63 #[.val (.long q1), .second, .val (.long q2), .second, .val (.long q3), .second, .val (.long u2), .second, .val (.long u4), .second, .val (.long u6), .second, .val (.long u10), .second, .val (.long u14), .second, .unset, .unset, .unset, .unset, .unset] [(.long u6), (.long u18), (.long u16)])) _
    refine st19 _ ?_
    show Steps p.tables e below (T19.setTop (mkF m 66 #[.val (.long q1), .second, .val (.long q2), .second, .val (.long q3), .second, .val (.long u2), .second, .val (.long u4), .second, .val (.long u6), .second, .val (.long u10), .second, .val (.long u14), .second, .unset, .unset, .unset, .unset, .unset] [(.long u20), (.long u16)])) _
    refine st21 _ ?_
    show Steps p.tables e below (T21.setTop (mkF m 69 #[.val (.long q1), .second, .val (.long q2), .second, .val (.long q3), .second, .val (.long u2), .second, .val (.long u4), .second, .val (.long u6), .second, .val (.long u10), .second, .val (.long u14), .second, .unset, .unset, .unset, .unset, .unset] [(.long u22)])) _
    refine XS.lstore X21.here hx rfl (hb hby at_69) rfl (l' := #[.val (.long q1), .second, .val (.long q2), .second, .val (.long q3), .second, .val (.long u2), .second, .val (.long u4), .second, .val (.long u6), .second, .val (.long u10), .second, .val (.long u14), .second, .val (.long u22), .second, .unset, .unset, .unset]) rfl ?_
    show Steps p.tables e below (T21.setTop (mkF m 71 #[.val (.long q1), .second, .val (.long q2), .second, .val (.long q3), .second, .val (.long u2), .second, .val (.long u4), .second, .val (.long u6), .second, .val (.long u10), .second, .val (.long u14), .second, .val (.long u22), .second, .unset, .unset, .unset] [])) _
    refine st23 _ ?_
    show Steps p.tables e below (T23.setTop (mkF m 74 #[.val (.long q1), .second, .val (.long q2), .second, .val (.long q3), .second, .val (.long u2), .second, .val (.long u4), .second, .val (.long u6), .second, .val (.long u10), .second, .val (.long u14), .second, .val (.long u22), .second, .unset, .unset, .unset] [(.ref b23)])) _
    refine XS.dup X23.here hx rfl (hb hby at_74) rfl rfl ?_
    show Steps p.tables e below (T23.setTop (mkF m 75 #[.val (.long q1), .second, .val (.long q2), .second, .val (.long q3), .second, .val (.long u2), .second, .val (.long u4), .second, .val (.long u6), .second, .val (.long u10), .second, .val (.long u14), .second, .val (.long u22), .second, .unset, .unset, .unset] [(.ref b23), (.ref b23)])) _
    refine XS.lload X23.here hx rfl (hb hby at_75) rfl ?_
    show Steps p.tables e below (T23.setTop (mkF m 77 #[.val (.long q1), .second, .val (.long q2), .second, .val (.long q3), .second, .val (.long u2), .second, .val (.long u4), .second, .val (.long u6), .second, .val (.long u10), .second, .val (.long u14), .second, .val (.long u22), .second, .unset, .unset, .unset] [(.long u10), (.ref b23), (.ref b23)])) _
    refine XS.lload X23.here hx rfl (hb hby at_77) rfl ?_
    show Steps p.tables e below (T23.setTop (mkF m 79 #[.val (.long q1), .second, .val (.long q2), .second, .val (.long q3), .second, .val (.long u2), .second, .val (.long u4), .second, .val (.long u6), .second, .val (.long u10), .second, .val (.long u14), .second, .val (.long u22), .second, .unset, .unset, .unset] [(.long u14), (.long u10), (.ref b23), (.ref b23)])) _
    refine st24.trans ?_
    show Steps p.tables e below (T24.setTop (mkF m 82 #[.val (.long q1), .second, .val (.long q2), .second, .val (.long q3), .second, .val (.long u2), .second, .val (.long u4), .second, .val (.long u6), .second, .val (.long u10), .second, .val (.long u14), .second, .val (.long u22), .second, .unset, .unset, .unset] [(.ref b23)])) _
    refine st25.trans ?_
    show Steps p.tables e below (T25.setTop (mkF m 85 #[.val (.long q1), .second, .val (.long q2), .second, .val (.long q3), .second, .val (.long u2), .second, .val (.long u4), .second, .val (.long u6), .second, .val (.long u10), .second, .val (.long u14), .second, .val (.long u22), .second, .unset, .unset, .unset] [(.long (own_len u10 u14))])) _
    rw [← hw26]
    show Steps p.tables e below (T25.setTop (mkF m 85 #[.val (.long q1), .second, .val (.long q2), .second, .val (.long q3), .second, .val (.long u2), .second, .val (.long u4), .second, .val (.long u6), .second, .val (.long u10), .second, .val (.long u14), .second, .val (.long u22), .second, .unset, .unset, .unset] [(.long w26)])) _
    refine XS.lstore X25.here hx rfl (hb hby at_85) rfl (l' := #[.val (.long q1), .second, .val (.long q2), .second, .val (.long q3), .second, .val (.long u2), .second, .val (.long u4), .second, .val (.long u6), .second, .val (.long u10), .second, .val (.long u14), .second, .val (.long u22), .second, .val (.long w26), .second, .unset]) rfl ?_
    show Steps p.tables e below (T25.setTop (mkF m 87 #[.val (.long q1), .second, .val (.long q2), .second, .val (.long q3), .second, .val (.long u2), .second, .val (.long u4), .second, .val (.long u6), .second, .val (.long u10), .second, .val (.long u14), .second, .val (.long u22), .second, .val (.long w26), .second, .unset] [])) _
    refine XS.lload X25.here hx rfl (hb hby at_87) rfl ?_
    show Steps p.tables e below (T25.setTop (mkF m 89 #[.val (.long q1), .second, .val (.long q2), .second, .val (.long q3), .second, .val (.long u2), .second, .val (.long u4), .second, .val (.long u6), .second, .val (.long u10), .second, .val (.long u14), .second, .val (.long u22), .second, .val (.long w26), .second, .unset] [(.long w26)])) _
    refine XS.lconst X25.here hx rfl (hb hby at_89) ?_
    show Steps p.tables e below (T25.setTop (mkF m 90 #[.val (.long q1), .second, .val (.long q2), .second, .val (.long q3), .second, .val (.long u2), .second, .val (.long u4), .second, .val (.long u6), .second, .val (.long u10), .second, .val (.long u14), .second, .val (.long u22), .second, .val (.long w26), .second, .unset] [(.long (1 : Int64)), (.long w26)])) _
    refine XS.lcmp X25.here hx rfl (hb hby at_90) rfl ?_
    show Steps p.tables e below (T25.setTop (mkF m 91 #[.val (.long q1), .second, .val (.long q2), .second, .val (.long q3), .second, .val (.long u2), .second, .val (.long u4), .second, .val (.long u6), .second, .val (.long u10), .second, .val (.long u14), .second, .val (.long u22), .second, .val (.long w26), .second, .unset] [(.int (lcmpW w26 (1 : Int64)))])) _
    refine XS.ifNo X25.here hx rfl (hb hby at_91) rfl ((if0 _ _).trans (flt (fun q => (own_whole hS hw26) ((lw_lt _ _).mp q))).1) ?_
    show Steps p.tables e below (T25.setTop (mkF m 94 #[.val (.long q1), .second, .val (.long q2), .second, .val (.long q3), .second, .val (.long u2), .second, .val (.long u4), .second, .val (.long u6), .second, .val (.long u10), .second, .val (.long u14), .second, .val (.long u22), .second, .val (.long w26), .second, .unset] [])) _
    refine st27 _ ?_
    show Steps p.tables e below (T27.setTop (mkF m 97 #[.val (.long q1), .second, .val (.long q2), .second, .val (.long q3), .second, .val (.long u2), .second, .val (.long u4), .second, .val (.long u6), .second, .val (.long u10), .second, .val (.long u14), .second, .val (.long u22), .second, .val (.long w26), .second, .unset] [(.ref b27)])) _
    refine XS.dup X27.here hx rfl (hb hby at_97) rfl rfl ?_
    show Steps p.tables e below (T27.setTop (mkF m 98 #[.val (.long q1), .second, .val (.long q2), .second, .val (.long q3), .second, .val (.long u2), .second, .val (.long u4), .second, .val (.long u6), .second, .val (.long u10), .second, .val (.long u14), .second, .val (.long u22), .second, .val (.long w26), .second, .unset] [(.ref b27), (.ref b27)])) _
    refine XS.lload X27.here hx rfl (hb hby at_98) rfl ?_
    show Steps p.tables e below (T27.setTop (mkF m 100 #[.val (.long q1), .second, .val (.long q2), .second, .val (.long q3), .second, .val (.long u2), .second, .val (.long u4), .second, .val (.long u6), .second, .val (.long u10), .second, .val (.long u14), .second, .val (.long u22), .second, .val (.long w26), .second, .unset] [(.long u22), (.ref b27), (.ref b27)])) _
    refine XS.lload X27.here hx rfl (hb hby at_100) rfl ?_
    show Steps p.tables e below (T27.setTop (mkF m 102 #[.val (.long q1), .second, .val (.long q2), .second, .val (.long q3), .second, .val (.long u2), .second, .val (.long u4), .second, .val (.long u6), .second, .val (.long u10), .second, .val (.long u14), .second, .val (.long u22), .second, .val (.long w26), .second, .unset] [(.long u22), (.long u22), (.ref b27), (.ref b27)])) _
    refine st28.trans ?_
    show Steps p.tables e below (T28.setTop (mkF m 105 #[.val (.long q1), .second, .val (.long q2), .second, .val (.long q3), .second, .val (.long u2), .second, .val (.long u4), .second, .val (.long u6), .second, .val (.long u10), .second, .val (.long u14), .second, .val (.long u22), .second, .val (.long w26), .second, .unset] [(.ref b27)])) _
    refine st29.trans ?_
    show Steps p.tables e below (T29.setTop (mkF m 108 #[.val (.long q1), .second, .val (.long q2), .second, .val (.long q3), .second, .val (.long u2), .second, .val (.long u4), .second, .val (.long u6), .second, .val (.long u10), .second, .val (.long u14), .second, .val (.long u22), .second, .val (.long w26), .second, .unset] [(.long (own_len u22 u22))])) _
    refine XS.lconst X29.here hx rfl (hb hby at_108) ?_
    show Steps p.tables e below (T29.setTop (mkF m 109 #[.val (.long q1), .second, .val (.long q2), .second, .val (.long q3), .second, .val (.long u2), .second, .val (.long u4), .second, .val (.long u6), .second, .val (.long u10), .second, .val (.long u14), .second, .val (.long u22), .second, .val (.long w26), .second, .unset] [(.long (1 : Int64)), (.long (own_len u22 u22))])) _
    refine XS.lcmp X29.here hx rfl (hb hby at_109) rfl ?_
    show Steps p.tables e below (T29.setTop (mkF m 110 #[.val (.long q1), .second, .val (.long q2), .second, .val (.long q3), .second, .val (.long u2), .second, .val (.long u4), .second, .val (.long u6), .second, .val (.long u10), .second, .val (.long u14), .second, .val (.long u22), .second, .val (.long w26), .second, .unset] [(.int (lcmpW (own_len u22 u22) (1 : Int64)))])) _
    refine XS.ifNo X29.here hx rfl (hb hby at_110) rfl ((if0 _ _).trans (teq ((lw_eq _ _).mpr (own_one hS))).2) ?_
    show Steps p.tables e below (T29.setTop (mkF m 113 #[.val (.long q1), .second, .val (.long q2), .second, .val (.long q3), .second, .val (.long u2), .second, .val (.long u4), .second, .val (.long u6), .second, .val (.long u10), .second, .val (.long u14), .second, .val (.long u22), .second, .val (.long w26), .second, .unset] [])) _
    refine XS.iconst X29.here hx rfl (hb hby at_113) ?_
    show Steps p.tables e below (T29.setTop (mkF m 114 #[.val (.long q1), .second, .val (.long q2), .second, .val (.long q3), .second, .val (.long u2), .second, .val (.long u4), .second, .val (.long u6), .second, .val (.long u10), .second, .val (.long u14), .second, .val (.long u22), .second, .val (.long w26), .second, .unset] [(.int (1 : Int32))])) _
    refine XS.goto X29.here hx rfl (pc0 := 114) (pc' := 118) rfl (hb hby at_114) (by decide) (by decide) ?_
    show Steps p.tables e below (T29.setTop (mkF m 118 #[.val (.long q1), .second, .val (.long q2), .second, .val (.long q3), .second, .val (.long u2), .second, .val (.long u4), .second, .val (.long u6), .second, .val (.long u10), .second, .val (.long u14), .second, .val (.long u22), .second, .val (.long w26), .second, .unset] [(.int (1 : Int32))])) _
    refine XS.istore X29.here hx rfl (hb hby at_118) rfl (l' := #[.val (.long q1), .second, .val (.long q2), .second, .val (.long q3), .second, .val (.long u2), .second, .val (.long u4), .second, .val (.long u6), .second, .val (.long u10), .second, .val (.long u14), .second, .val (.long u22), .second, .val (.long w26), .second, .val (.int (1 : Int32))]) rfl ?_
    show Steps p.tables e below (T29.setTop (mkF m 120 #[.val (.long q1), .second, .val (.long q2), .second, .val (.long q3), .second, .val (.long u2), .second, .val (.long u4), .second, .val (.long u6), .second, .val (.long u10), .second, .val (.long u14), .second, .val (.long u22), .second, .val (.long w26), .second, .val (.int (1 : Int32))] [])) _
    refine XS.lload X29.here hx rfl (hb hby at_120) rfl ?_
    show Steps p.tables e below (T29.setTop (mkF m 122 #[.val (.long q1), .second, .val (.long q2), .second, .val (.long q3), .second, .val (.long u2), .second, .val (.long u4), .second, .val (.long u6), .second, .val (.long u10), .second, .val (.long u14), .second, .val (.long u22), .second, .val (.long w26), .second, .val (.int (1 : Int32))] [(.long u22)])) _
    refine XS.lload X29.here hx rfl (hb hby at_122) rfl ?_
    show Steps p.tables e below (T29.setTop (mkF m 124 #[.val (.long q1), .second, .val (.long q2), .second, .val (.long q3), .second, .val (.long u2), .second, .val (.long u4), .second, .val (.long u6), .second, .val (.long u10), .second, .val (.long u14), .second, .val (.long u22), .second, .val (.long w26), .second, .val (.int (1 : Int32))] [(.long u14), (.long u22)])) _
    refine XS.lcmp X29.here hx rfl (hb hby at_124) rfl ?_
    show Steps p.tables e below (T29.setTop (mkF m 125 #[.val (.long q1), .second, .val (.long q2), .second, .val (.long q3), .second, .val (.long u2), .second, .val (.long u4), .second, .val (.long u6), .second, .val (.long u10), .second, .val (.long u14), .second, .val (.long u22), .second, .val (.long w26), .second, .val (.int (1 : Int32))] [(.int (lcmpW u22 u14))])) _
    refine XS.ifYes X29.here hx rfl (pc0 := 125) (pc' := 180) rfl (hb hby at_125) rfl ((if0 _ _).trans (flt (fun q => hp ((lw_lt _ _).mp q))).2.1) (by decide) (by decide) ?_
    show Steps p.tables e below (T29.setTop (mkF m 180 #[.val (.long q1), .second, .val (.long q2), .second, .val (.long q3), .second, .val (.long u2), .second, .val (.long u4), .second, .val (.long u6), .second, .val (.long u10), .second, .val (.long u14), .second, .val (.long u22), .second, .val (.long w26), .second, .val (.int (1 : Int32))] [])) _
    refine XS.lload X29.here hx rfl (hb hby at_180) rfl ?_
    show Steps p.tables e below (T29.setTop (mkF m 182 #[.val (.long q1), .second, .val (.long q2), .second, .val (.long q3), .second, .val (.long u2), .second, .val (.long u4), .second, .val (.long u6), .second, .val (.long u10), .second, .val (.long u14), .second, .val (.long u22), .second, .val (.long w26), .second, .val (.int (1 : Int32))] [(.long u10)])) _
    refine XS.lload X29.here hx rfl (hb hby at_182) rfl ?_
    show Steps p.tables e below (T29.setTop (mkF m 184 #[.val (.long q1), .second, .val (.long q2), .second, .val (.long q3), .second, .val (.long u2), .second, .val (.long u4), .second, .val (.long u6), .second, .val (.long u10), .second, .val (.long u14), .second, .val (.long u22), .second, .val (.long w26), .second, .val (.int (1 : Int32))] [(.long u14), (.long u10)])) _
    refine XS.lcmp X29.here hx rfl (hb hby at_184) rfl ?_
    show Steps p.tables e below (T29.setTop (mkF m 185 #[.val (.long q1), .second, .val (.long q2), .second, .val (.long q3), .second, .val (.long u2), .second, .val (.long u4), .second, .val (.long u6), .second, .val (.long u10), .second, .val (.long u14), .second, .val (.long u22), .second, .val (.long w26), .second, .val (.int (1 : Int32))] [(.int (lcmpW u10 u14))])) _
    refine XS.ifNo X29.here hx rfl (hb hby at_185) rfl ((if0 _ _).trans (tlt ((lw_lt _ _).mpr hq)).2.1) ?_
    show Steps p.tables e below (T29.setTop (mkF m 188 #[.val (.long q1), .second, .val (.long q2), .second, .val (.long q3), .second, .val (.long u2), .second, .val (.long u4), .second, .val (.long u6), .second, .val (.long u10), .second, .val (.long u14), .second, .val (.long u22), .second, .val (.long w26), .second, .val (.int (1 : Int32))] [])) _
    refine XS.iload X29.here hx rfl (hb hby at_188) rfl ?_
    show Steps p.tables e below (T29.setTop (mkF m 190 #[.val (.long q1), .second, .val (.long q2), .second, .val (.long q3), .second, .val (.long u2), .second, .val (.long u4), .second, .val (.long u6), .second, .val (.long u10), .second, .val (.long u14), .second, .val (.long u22), .second, .val (.long w26), .second, .val (.int (1 : Int32))] [(.int (1 : Int32))])) _
    refine XS.ifNo X29.here hx rfl (hb hby at_190) rfl ((if0 _ _).trans (feq (by decide)).1) ?_
    show Steps p.tables e below (T29.setTop (mkF m 193 #[.val (.long q1), .second, .val (.long q2), .second, .val (.long q3), .second, .val (.long u2), .second, .val (.long u4), .second, .val (.long u6), .second, .val (.long u10), .second, .val (.long u14), .second, .val (.long u22), .second, .val (.long w26), .second, .val (.int (1 : Int32))] [])) _
    refine XS.lload X29.here hx rfl (hb hby at_193) rfl ?_
    show Steps p.tables e below (T29.setTop (mkF m 195 #[.val (.long q1), .second, .val (.long q2), .second, .val (.long q3), .second, .val (.long u2), .second, .val (.long u4), .second, .val (.long u6), .second, .val (.long u10), .second, .val (.long u14), .second, .val (.long u22), .second, .val (.long w26), .second, .val (.int (1 : Int32))] [(.long w26)])) _
    refine st30 _ ?_
    show Steps p.tables e below (T30.setTop (mkF m 198 #[.val (.long q1), .second, .val (.long q2), .second, .val (.long q3), .second, .val (.long u2), .second, .val (.long u4), .second, .val (.long u6), .second, .val (.long u10), .second, .val (.long u14), .second, .val (.long u22), .second, .val (.long w26), .second, .val (.int (1 : Int32))] [(.ref b30), (.long w26)])) _
    refine XS.dup X30.here hx rfl (hb hby at_198) rfl rfl ?_
    show Steps p.tables e below (T30.setTop (mkF m 199 #[.val (.long q1), .second, .val (.long q2), .second, .val (.long q3), .second, .val (.long u2), .second, .val (.long u4), .second, .val (.long u6), .second, .val (.long u10), .second, .val (.long u14), .second, .val (.long u22), .second, .val (.long w26), .second, .val (.int (1 : Int32))] [(.ref b30), (.ref b30), (.long w26)])) _
    refine XS.lload X30.here hx rfl (hb hby at_199) rfl ?_
    show Steps p.tables e below (T30.setTop (mkF m 201 #[.val (.long q1), .second, .val (.long q2), .second, .val (.long q3), .second, .val (.long u2), .second, .val (.long u4), .second, .val (.long u6), .second, .val (.long u10), .second, .val (.long u14), .second, .val (.long u22), .second, .val (.long w26), .second, .val (.int (1 : Int32))] [(.long u10), (.ref b30), (.ref b30), (.long w26)])) _
    refine XS.lload X30.here hx rfl (hb hby at_201) rfl ?_
    show Steps p.tables e below (T30.setTop (mkF m 203 #[.val (.long q1), .second, .val (.long q2), .second, .val (.long q3), .second, .val (.long u2), .second, .val (.long u4), .second, .val (.long u6), .second, .val (.long u10), .second, .val (.long u14), .second, .val (.long u22), .second, .val (.long w26), .second, .val (.int (1 : Int32))] [(.long u10), (.long u10), (.ref b30), (.ref b30), (.long w26)])) _
    refine st31.trans ?_
    show Steps p.tables e below (T31.setTop (mkF m 206 #[.val (.long q1), .second, .val (.long q2), .second, .val (.long q3), .second, .val (.long u2), .second, .val (.long u4), .second, .val (.long u6), .second, .val (.long u10), .second, .val (.long u14), .second, .val (.long u22), .second, .val (.long w26), .second, .val (.int (1 : Int32))] [(.ref b30), (.long w26)])) _
    refine st32.trans ?_
    show Steps p.tables e below (T32.setTop (mkF m 209 #[.val (.long q1), .second, .val (.long q2), .second, .val (.long q3), .second, .val (.long u2), .second, .val (.long u4), .second, .val (.long u6), .second, .val (.long u10), .second, .val (.long u14), .second, .val (.long u22), .second, .val (.long w26), .second, .val (.int (1 : Int32))] [(.long (own_len u10 u10)), (.long w26)])) _
    refine st33 _ ?_
    show Steps p.tables e below (T33.setTop (mkF m 212 #[.val (.long q1), .second, .val (.long q2), .second, .val (.long q3), .second, .val (.long u2), .second, .val (.long u4), .second, .val (.long u6), .second, .val (.long u10), .second, .val (.long u14), .second, .val (.long u22), .second, .val (.long w26), .second, .val (.int (1 : Int32))] [(.ref b33), (.long (own_len u10 u10)), (.long w26)])) _
    refine XS.dup X33.here hx rfl (hb hby at_212) rfl rfl ?_
    show Steps p.tables e below (T33.setTop (mkF m 213 #[.val (.long q1), .second, .val (.long q2), .second, .val (.long q3), .second, .val (.long u2), .second, .val (.long u4), .second, .val (.long u6), .second, .val (.long u10), .second, .val (.long u14), .second, .val (.long u22), .second, .val (.long w26), .second, .val (.int (1 : Int32))] [(.ref b33), (.ref b33), (.long (own_len u10 u10)), (.long w26)])) _
    refine XS.lload X33.here hx rfl (hb hby at_213) rfl ?_
    show Steps p.tables e below (T33.setTop (mkF m 215 #[.val (.long q1), .second, .val (.long q2), .second, .val (.long q3), .second, .val (.long u2), .second, .val (.long u4), .second, .val (.long u6), .second, .val (.long u10), .second, .val (.long u14), .second, .val (.long u22), .second, .val (.long w26), .second, .val (.int (1 : Int32))] [(.long u10), (.ref b33), (.ref b33), (.long (own_len u10 u10)), (.long w26)])) _
    refine XS.lconst X33.here hx rfl (hb hby at_215) ?_
    show Steps p.tables e below (T33.setTop (mkF m 216 #[.val (.long q1), .second, .val (.long q2), .second, .val (.long q3), .second, .val (.long u2), .second, .val (.long u4), .second, .val (.long u6), .second, .val (.long u10), .second, .val (.long u14), .second, .val (.long u22), .second, .val (.long w26), .second, .val (.int (1 : Int32))] [(.long (1 : Int64)), (.long u10), (.ref b33), (.ref b33), (.long (own_len u10 u10)), (.long w26)])) _
    refine XS.ladd X33.here hx rfl (hb hby at_216) rfl ?_
    show Steps p.tables e below (T33.setTop (mkF m 217 #[.val (.long q1), .second, .val (.long q2), .second, .val (.long q3), .second, .val (.long u2), .second, .val (.long u4), .second, .val (.long u6), .second, .val (.long u10), .second, .val (.long u14), .second, .val (.long u22), .second, .val (.long w26), .second, .val (.int (1 : Int32))] [(.long (u10 + (1 : Int64))), (.ref b33), (.ref b33), (.long (own_len u10 u10)), (.long w26)])) _
    refine XS.lload X33.here hx rfl (hb hby at_217) rfl ?_
    show Steps p.tables e below (T33.setTop (mkF m 219 #[.val (.long q1), .second, .val (.long q2), .second, .val (.long q3), .second, .val (.long u2), .second, .val (.long u4), .second, .val (.long u6), .second, .val (.long u10), .second, .val (.long u14), .second, .val (.long u22), .second, .val (.long w26), .second, .val (.int (1 : Int32))] [(.long u14), (.long (u10 + (1 : Int64))), (.ref b33), (.ref b33), (.long (own_len u10 u10)), (.long w26)])) _
    refine st34.trans ?_
    show Steps p.tables e below (T34.setTop (mkF m 222 #[.val (.long q1), .second, .val (.long q2), .second, .val (.long q3), .second, .val (.long u2), .second, .val (.long u4), .second, .val (.long u6), .second, .val (.long u10), .second, .val (.long u14), .second, .val (.long u22), .second, .val (.long w26), .second, .val (.int (1 : Int32))] [(.ref b33), (.long (own_len u10 u10)), (.long w26)])) _
    refine st35.trans ?_
    show Steps p.tables e below (T35.setTop (mkF m 225 #[.val (.long q1), .second, .val (.long q2), .second, .val (.long q3), .second, .val (.long u2), .second, .val (.long u4), .second, .val (.long u6), .second, .val (.long u10), .second, .val (.long u14), .second, .val (.long u22), .second, .val (.long w26), .second, .val (.int (1 : Int32))] [(.long (own_len (u10 + (1 : Int64)) u14)), (.long (own_len u10 u10)), (.long w26)])) _
    refine XS.ladd X35.here hx rfl (hb hby at_225) rfl ?_
    show Steps p.tables e below (T35.setTop (mkF m 226 #[.val (.long q1), .second, .val (.long q2), .second, .val (.long q3), .second, .val (.long u2), .second, .val (.long u4), .second, .val (.long u6), .second, .val (.long u10), .second, .val (.long u14), .second, .val (.long u22), .second, .val (.long w26), .second, .val (.int (1 : Int32))] [(.long ((own_len u10 u10) + (own_len (u10 + (1 : Int64)) u14))), (.long w26)])) _
    refine XS.lcmp X35.here hx rfl (hb hby at_226) rfl ?_
    show Steps p.tables e below (T35.setTop (mkF m 227 #[.val (.long q1), .second, .val (.long q2), .second, .val (.long q3), .second, .val (.long u2), .second, .val (.long u4), .second, .val (.long u6), .second, .val (.long u10), .second, .val (.long u14), .second, .val (.long u22), .second, .val (.long w26), .second, .val (.int (1 : Int32))] [(.int (lcmpW w26 ((own_len u10 u10) + (own_len (u10 + (1 : Int64)) u14))))])) _
    refine XS.ifNo X35.here hx rfl (hb hby at_227) rfl ((if0 _ _).trans (teq ((lw_eq _ _).mpr (hw26.trans (own_split hS.1 (Int.le_refl _) hq hS.2.2.2)))).2) ?_
    show Steps p.tables e below (T35.setTop (mkF m 230 #[.val (.long q1), .second, .val (.long q2), .second, .val (.long q3), .second, .val (.long u2), .second, .val (.long u4), .second, .val (.long u6), .second, .val (.long u10), .second, .val (.long u14), .second, .val (.long u22), .second, .val (.long w26), .second, .val (.int (1 : Int32))] [])) _
    refine XS.iconst X35.here hx rfl (hb hby at_230) ?_
    show Steps p.tables e below (T35.setTop (mkF m 231 #[.val (.long q1), .second, .val (.long q2), .second, .val (.long q3), .second, .val (.long u2), .second, .val (.long u4), .second, .val (.long u6), .second, .val (.long u10), .second, .val (.long u14), .second, .val (.long u22), .second, .val (.long w26), .second, .val (.int (1 : Int32))] [(.int (1 : Int32))])) _
    refine XS.goto X35.here hx rfl (pc0 := 231) (pc' := 235) rfl (hb hby at_231) (by decide) (by decide) ?_
    show Steps p.tables e below (T35.setTop (mkF m 235 #[.val (.long q1), .second, .val (.long q2), .second, .val (.long q3), .second, .val (.long u2), .second, .val (.long u4), .second, .val (.long u6), .second, .val (.long u10), .second, .val (.long u14), .second, .val (.long u22), .second, .val (.long w26), .second, .val (.int (1 : Int32))] [(.int (1 : Int32))])) _
    refine XS.istore X35.here hx rfl (hb hby at_235) rfl (l' := #[.val (.long q1), .second, .val (.long q2), .second, .val (.long q3), .second, .val (.long u2), .second, .val (.long u4), .second, .val (.long u6), .second, .val (.long u10), .second, .val (.long u14), .second, .val (.long u22), .second, .val (.long w26), .second, .val (.int (1 : Int32))]) rfl ?_
    show Steps p.tables e below (T35.setTop (mkF m 237 #[.val (.long q1), .second, .val (.long q2), .second, .val (.long q3), .second, .val (.long u2), .second, .val (.long u4), .second, .val (.long u6), .second, .val (.long u10), .second, .val (.long u14), .second, .val (.long u22), .second, .val (.long w26), .second, .val (.int (1 : Int32))] [])) _
    refine XS.iload X35.here hx rfl (hb hby at_237) rfl ?_
    show Steps p.tables e below (T35.setTop (mkF m 239 #[.val (.long q1), .second, .val (.long q2), .second, .val (.long q3), .second, .val (.long u2), .second, .val (.long u4), .second, .val (.long u6), .second, .val (.long u10), .second, .val (.long u14), .second, .val (.long u22), .second, .val (.long w26), .second, .val (.int (1 : Int32))] [(.int (1 : Int32))])) _
    exact retN X35 hx (t := .boolean) Bd.returns (by simp) (hb hby at_239) hr
  · show own_Q_law Z q1 q2 q3  h0 n0 _ T35.heap _
    exact ⟨rfl, N35⟩
set_option maxRecDepth 65536 in
set_option maxHeartbeats 40000000 in
theorem own_rm_law_c (l : Launch) (Z : State) (a0 : Array Value) (hw : ∀ d ∈ tables_1, d.before a0 Z = true) (ws : List Jvm.Cond) (q1 : Int64) (q2 : Int64) (q3 : Int64)  (h0 : Heap) (n0 : Nat) (Z0 : n0 ≤ h0.size) (hp : ¬ ((own_mx (own_mn (own_pos q1) (own_pos q2)) (own_mn (own_mx (own_pos q1) (own_pos q2)) (own_pos q3))) < (own_mx (own_pos q1) (own_mx (own_pos q2) (own_pos q3))))) (hq : ¬ ((own_mn (own_pos q1) (own_mn (own_pos q2) (own_pos q3))) < (own_mx (own_pos q1) (own_mx (own_pos q2) (own_pos q3))))) :
    MetFree l x (head1 (Jvm.Cond.code x code maxLocals ret :: ws) room_1) (fun a U => a = #[(.long q1), (.long q2), (.long q3)] ∧ Z.Warmed39 U.vm ∧ U.heap = h0) (fun _ _ _ _ _ => True) (fun _ U o U' => ∃ v L, o = .returned v ∧ own_Q_law Z q1 q2 q3  h0 n0 v U'.heap L ∧ FrameEnd U o U' L room_1.cells room_1.slots) := by
  refine MetFree.of_bodySF (plainFor_of_name own_pn0) hisR ?_
  intro p e s m args below meth c s₁ Bd hml0 hP hK
  obtain ⟨rfl, hZ, hh⟩ := hP
  have hx := Bd.exec
  have hby := Bd.bytes
  have hml : c.maxLocals = 21 := hml0
  have hown : s.vm.findClass "com/example/beamhall/beamhall/hub/ByteRangeLengthPinLaw" = some m.cls := findClass_of_methodNamed Bd.named
  have hnm := (name_of_methodNamed Bd.named Bd.method).1
  have X0 : Stand p l e room_1 s m #[(.long q1), (.long q2), (.long q3)] below meth c s₁ [] 0 0 := Stand.of_body Bd
  have e0 : s₁.heap = h0 := by rw [← hh, Bd.state]; rfl
  have N0 := Fr.nil n0
  have pre0 : ∀ t, Steps p.tables e below (s₁.setTop (mkF m 0 #[.val (.long q1), .second, .val (.long q2), .second, .val (.long q3), .second, .unset, .unset, .unset, .unset, .unset, .unset, .unset, .unset, .unset, .unset, .unset, .unset, .unset, .unset, .unset] [])) t → Steps p.tables e below (s₁.setTop (entryFrame m #[(.long q1), (.long q2), (.long q3)] maxLocals)) t := fun t k => castTop (own_ef_law m q1 q2 q3) k
  obtain ⟨_, _, ⟨T1, L1, k1, n1⟩, -, X1, ⟨Lc1, hQ1, l1, y1, z1⟩, st1⟩ := Jvm.LawKit.callS X0 hx (y := (⟨"com/example/beamhall/beamhall/hub/ByteRangeLengthPinLaw", "pos", "(J)J"⟩ : MethodName)) hown (mvT hZ (hw _ (List.mem_of_getElem? (i := 0) rfl))) (mvT hZ (hw _ (List.mem_of_getElem? (i := 1) rfl))) (mvT hZ (hw _ (List.mem_of_getElem? (i := 2) rfl))) (mvT hZ (hw _ (List.mem_of_getElem? (i := 3) rfl))) (by decide) (backOf (W := 0) (own_rm_pos l Z a0 hw [] q1 h0 n0 Z0) hZ (hw _ (List.mem_of_getElem? (i := 3) rfl)) (hw _ (List.mem_of_getElem? (i := 2) rfl)) (by decide) (by decide)) (g := (mkF m 1 #[.val (.long q1), .second, .val (.long q2), .second, .val (.long q3), .second, .unset, .unset, .unset, .unset, .unset, .unset, .unset, .unset, .unset, .unset, .unset, .unset, .unset, .unset, .unset] [(.long q1)])) rfl (by rw [hml]; rfl) (argsL := [(.long q1)]) (rest := []) (lenOf own_pd1 rfl) rfl (by show 2 * 0 + _ ≤ _; exact Nat.le_of_eq rfl) (hb hby at_1) (fun _ _ => ⟨rfl, e0, (by decide : 0 + 0 ≤ _), (by decide : 0 + 0 ≤ _)⟩)
  dsimp only [Pt.U, Pt.locs, Pt.cells, Pt.slots] at X1 l1 y1 z1 st1 hQ1
  subst l1 y1 z1
  obtain ⟨rfl, N1q, e1q⟩ := hQ1
  have N1 := Fr.app N0 N1q
  have Z1 : n0 ≤ T1.heap.size := by rw [e1q]; exact Z0
  obtain ⟨u2, hu2⟩ : ∃ z : Int64, z = (own_pos q1) := ⟨_, rfl⟩
  rw [← hu2] at st1
  obtain ⟨_, _, ⟨T3, L3, k3, n3⟩, -, X3, ⟨Lc3, hQ3, l3, y3, z3⟩, st3⟩ := Jvm.LawKit.callS X1 hx (y := (⟨"com/example/beamhall/beamhall/hub/ByteRangeLengthPinLaw", "pos", "(J)J"⟩ : MethodName)) hown (mvT hZ (hw _ (List.mem_of_getElem? (i := 0) rfl))) (mvT hZ (hw _ (List.mem_of_getElem? (i := 1) rfl))) (mvT hZ (hw _ (List.mem_of_getElem? (i := 2) rfl))) (mvT hZ (hw _ (List.mem_of_getElem? (i := 3) rfl))) (by decide) (backOf (W := 0) (own_rm_pos l Z a0 hw [] q2 T1.heap n0 Z1) hZ (hw _ (List.mem_of_getElem? (i := 3) rfl)) (hw _ (List.mem_of_getElem? (i := 2) rfl)) (by decide) (by decide)) (g := (mkF m 7 #[.val (.long q1), .second, .val (.long q2), .second, .val (.long q3), .second, .val (.long u2), .second, .unset, .unset, .unset, .unset, .unset, .unset, .unset, .unset, .unset, .unset, .unset, .unset, .unset] [(.long q2)])) rfl (by rw [hml]; rfl) (argsL := [(.long q2)]) (rest := []) (lenOf own_pd1 rfl) rfl (by show 2 * 0 + _ ≤ _; exact Nat.le_of_eq rfl) (hb hby at_7) (fun _ _ => ⟨rfl, rfl, (by decide : 0 + 0 ≤ _), (by decide : 0 + 0 ≤ _)⟩)
  dsimp only [Pt.U, Pt.locs, Pt.cells, Pt.slots] at X3 l3 y3 z3 st3 hQ3
  subst l3 y3 z3
  obtain ⟨rfl, N3q, e3q⟩ := hQ3
  have N3 := Fr.app N1 N3q
  have Z3 : n0 ≤ T3.heap.size := by rw [e3q]; exact Z1
  obtain ⟨u4, hu4⟩ : ∃ z : Int64, z = (own_pos q2) := ⟨_, rfl⟩
  rw [← hu4] at st3
  obtain ⟨_, _, ⟨T5, L5, k5, n5⟩, -, X5, ⟨Lc5, hQ5, l5, y5, z5⟩, st5⟩ := Jvm.LawKit.callS X3 hx (y := (⟨"com/example/beamhall/beamhall/hub/ByteRangeLengthPinLaw", "pos", "(J)J"⟩ : MethodName)) hown (mvT hZ (hw _ (List.mem_of_getElem? (i := 0) rfl))) (mvT hZ (hw _ (List.mem_of_getElem? (i := 1) rfl))) (mvT hZ (hw _ (List.mem_of_getElem? (i := 2) rfl))) (mvT hZ (hw _ (List.mem_of_getElem? (i := 3) rfl))) (by decide) (backOf (W := 0) (own_rm_pos l Z a0 hw [] q3 T3.heap n0 Z3) hZ (hw _ (List.mem_of_getElem? (i := 3) rfl)) (hw _ (List.mem_of_getElem? (i := 2) rfl)) (by decide) (by decide)) (g := (mkF m 14 #[.val (.long q1), .second, .val (.long q2), .second, .val (.long q3), .second, .val (.long u2), .second, .val (.long u4), .second, .unset, .unset, .unset, .unset, .unset, .unset, .unset, .unset, .unset, .unset, .unset] [(.long q3)])) rfl (by rw [hml]; rfl) (argsL := [(.long q3)]) (rest := []) (lenOf own_pd1 rfl) rfl (by show 2 * 0 + _ ≤ _; exact Nat.le_of_eq rfl) (hb hby at_14) (fun _ _ => ⟨rfl, rfl, (by decide : 0 + 0 ≤ _), (by decide : 0 + 0 ≤ _)⟩)
  dsimp only [Pt.U, Pt.locs, Pt.cells, Pt.slots] at X5 l5 y5 z5 st5 hQ5
  subst l5 y5 z5
  obtain ⟨rfl, N5q, e5q⟩ := hQ5
  have N5 := Fr.app N3 N5q
  have Z5 : n0 ≤ T5.heap.size := by rw [e5q]; exact Z3
  obtain ⟨u6, hu6⟩ : ∃ z : Int64, z = (own_pos q3) := ⟨_, rfl⟩
  rw [← hu6] at st5
  obtain ⟨_, _, ⟨T7, L7, k7, n7⟩, -, X7, ⟨Lc7, hQ7, l7, y7, z7⟩, st7⟩ := Jvm.LawKit.callS X5 hx (y := (⟨"java/lang/Math", "min", "(JJ)J"⟩ : MethodName)) hown (mvT hZ (hw _ (List.mem_of_getElem? (i := 5) rfl))) (mvT hZ (hw _ (List.mem_of_getElem? (i := 6) rfl))) (mvT hZ (hw _ (List.mem_of_getElem? (i := 7) rfl))) (mvT hZ (hw _ (List.mem_of_getElem? (i := 8) rfl))) (by decide) (backOf (W := 2) (own_rm_min l Z a0 hw [] u4 u6 T5.heap n0 Z5) hZ (hw _ (List.mem_of_getElem? (i := 8) rfl)) (hw _ (List.mem_of_getElem? (i := 7) rfl)) (by decide) (by decide)) (g := (mkF m 25 #[.val (.long q1), .second, .val (.long q2), .second, .val (.long q3), .second, .val (.long u2), .second, .val (.long u4), .second, .val (.long u6), .second, .unset, .unset, .unset, .unset, .unset, .unset, .unset, .unset, .unset] [(.long u6), (.long u4), (.long u2)])) rfl (by rw [hml]; rfl) (argsL := [(.long u4), (.long u6)]) (rest := [(.long u2)]) (lenOf own_pd2 rfl) rfl (by show 2 * 0 + _ ≤ _; exact Nat.le_of_eq rfl) (hb hby at_25) (fun _ _ => ⟨rfl, rfl, (by decide : 0 + 0 ≤ _), (by decide : 0 + 0 ≤ _)⟩)
  dsimp only [Pt.U, Pt.locs, Pt.cells, Pt.slots] at X7 l7 y7 z7 st7 hQ7
  subst l7 y7 z7
  obtain ⟨rfl, N7q, e7q⟩ := hQ7
  have N7 := Fr.app N5 N7q
  have Z7 : n0 ≤ T7.heap.size := by rw [e7q]; exact Z5
  obtain ⟨u8, hu8⟩ : ∃ z : Int64, z = (own_mn u4 u6) := ⟨_, rfl⟩
  rw [← hu8] at st7
  obtain ⟨_, _, ⟨T9, L9, k9, n9⟩, -, X9, ⟨Lc9, hQ9, l9, y9, z9⟩, st9⟩ := Jvm.LawKit.callS X7 hx (y := (⟨"java/lang/Math", "min", "(JJ)J"⟩ : MethodName)) hown (mvT hZ (hw _ (List.mem_of_getElem? (i := 5) rfl))) (mvT hZ (hw _ (List.mem_of_getElem? (i := 6) rfl))) (mvT hZ (hw _ (List.mem_of_getElem? (i := 7) rfl))) (mvT hZ (hw _ (List.mem_of_getElem? (i := 8) rfl))) (by decide) (backOf (W := 0) (own_rm_min l Z a0 hw [] u2 u8 T7.heap n0 Z7) hZ (hw _ (List.mem_of_getElem? (i := 8) rfl)) (hw _ (List.mem_of_getElem? (i := 7) rfl)) (by decide) (by decide)) (g := (mkF m 28 #[.val (.long q1), .second, .val (.long q2), .second, .val (.long q3), .second, .val (.long u2), .second, .val (.long u4), .second, .val (.long u6), .second, .unset, .unset, .unset, .unset, .unset, .unset, .unset, .unset, .unset] [(.long u8), (.long u2)])) rfl (by rw [hml]; rfl) (argsL := [(.long u2), (.long u8)]) (rest := []) (lenOf own_pd2 rfl) rfl (by show 2 * 0 + _ ≤ _; exact Nat.le_of_eq rfl) (hb hby at_28) (fun _ _ => ⟨rfl, rfl, (by decide : 0 + 0 ≤ _), (by decide : 0 + 0 ≤ _)⟩)
  dsimp only [Pt.U, Pt.locs, Pt.cells, Pt.slots] at X9 l9 y9 z9 st9 hQ9
  subst l9 y9 z9
  obtain ⟨rfl, N9q, e9q⟩ := hQ9
  have N9 := Fr.app N7 N9q
  have Z9 : n0 ≤ T9.heap.size := by rw [e9q]; exact Z7
  obtain ⟨u10, hu10⟩ : ∃ z : Int64, z = (own_mn u2 u8) := ⟨_, rfl⟩
  rw [← hu10] at st9
  obtain ⟨_, _, ⟨T11, L11, k11, n11⟩, -, X11, ⟨Lc11, hQ11, l11, y11, z11⟩, st11⟩ := Jvm.LawKit.callS X9 hx (y := (⟨"java/lang/Math", "max", "(JJ)J"⟩ : MethodName)) hown (mvT hZ (hw _ (List.mem_of_getElem? (i := 9) rfl))) (mvT hZ (hw _ (List.mem_of_getElem? (i := 10) rfl))) (mvT hZ (hw _ (List.mem_of_getElem? (i := 7) rfl))) (mvT hZ (hw _ (List.mem_of_getElem? (i := 11) rfl))) (by decide) (backOf (W := 2) (own_rm_max l Z a0 hw [] u4 u6 T9.heap n0 Z9) hZ (hw _ (List.mem_of_getElem? (i := 11) rfl)) (hw _ (List.mem_of_getElem? (i := 7) rfl)) (by decide) (by decide)) (g := (mkF m 39 #[.val (.long q1), .second, .val (.long q2), .second, .val (.long q3), .second, .val (.long u2), .second, .val (.long u4), .second, .val (.long u6), .second, .val (.long u10), .second, .unset, .unset, .unset, .unset, .unset, .unset, .unset] [(.long u6), (.long u4), (.long u2)])) rfl (by rw [hml]; rfl) (argsL := [(.long u4), (.long u6)]) (rest := [(.long u2)]) (lenOf own_pd2 rfl) rfl (by show 2 * 0 + _ ≤ _; exact Nat.le_of_eq rfl) (hb hby at_39) (fun _ _ => ⟨rfl, rfl, (by decide : 0 + 0 ≤ _), (by decide : 0 + 0 ≤ _)⟩)
  dsimp only [Pt.U, Pt.locs, Pt.cells, Pt.slots] at X11 l11 y11 z11 st11 hQ11
  subst l11 y11 z11
  obtain ⟨rfl, N11q, e11q⟩ := hQ11
  have N11 := Fr.app N9 N11q
  have Z11 : n0 ≤ T11.heap.size := by rw [e11q]; exact Z9
  obtain ⟨u12, hu12⟩ : ∃ z : Int64, z = (own_mx u4 u6) := ⟨_, rfl⟩
  rw [← hu12] at st11
  obtain ⟨_, _, ⟨T13, L13, k13, n13⟩, -, X13, ⟨Lc13, hQ13, l13, y13, z13⟩, st13⟩ := Jvm.LawKit.callS X11 hx (y := (⟨"java/lang/Math", "max", "(JJ)J"⟩ : MethodName)) hown (mvT hZ (hw _ (List.mem_of_getElem? (i := 9) rfl))) (mvT hZ (hw _ (List.mem_of_getElem? (i := 10) rfl))) (mvT hZ (hw _ (List.mem_of_getElem? (i := 7) rfl))) (mvT hZ (hw _ (List.mem_of_getElem? (i := 11) rfl))) (by decide) (backOf (W := 0) (own_rm_max l Z a0 hw [] u2 u12 T11.heap n0 Z11) hZ (hw _ (List.mem_of_getElem? (i := 11) rfl)) (hw _ (List.mem_of_getElem? (i := 7) rfl)) (by decide) (by decide)) (g := (mkF m 42 #[.val (.long q1), .second, .val (.long q2), .second, .val (.long q3), .second, .val (.long u2), .second, .val (.long u4), .second, .val (.long u6), .second, .val (.long u10), .second, .unset, .unset, .unset, .unset, .unset, .unset, .unset] [(.long u12), (.long u2)])) rfl (by rw [hml]; rfl) (argsL := [(.long u2), (.long u12)]) (rest := []) (lenOf own_pd2 rfl) rfl (by show 2 * 0 + _ ≤ _; exact Nat.le_of_eq rfl) (hb hby at_42) (fun _ _ => ⟨rfl, rfl, (by decide : 0 + 0 ≤ _), (by decide : 0 + 0 ≤ _)⟩)
  dsimp only [Pt.U, Pt.locs, Pt.cells, Pt.slots] at X13 l13 y13 z13 st13 hQ13
  subst l13 y13 z13
  obtain ⟨rfl, N13q, e13q⟩ := hQ13
  have N13 := Fr.app N11 N13q
  have Z13 : n0 ≤ T13.heap.size := by rw [e13q]; exact Z11
  obtain ⟨u14, hu14⟩ : ∃ z : Int64, z = (own_mx u2 u12) := ⟨_, rfl⟩
  rw [← hu14] at st13
  obtain ⟨_, _, ⟨T15, L15, k15, n15⟩, -, X15, ⟨Lc15, hQ15, l15, y15, z15⟩, st15⟩ := Jvm.LawKit.callS X13 hx (y := (⟨"java/lang/Math", "min", "(JJ)J"⟩ : MethodName)) hown (mvT hZ (hw _ (List.mem_of_getElem? (i := 5) rfl))) (mvT hZ (hw _ (List.mem_of_getElem? (i := 6) rfl))) (mvT hZ (hw _ (List.mem_of_getElem? (i := 7) rfl))) (mvT hZ (hw _ (List.mem_of_getElem? (i := 8) rfl))) (by decide) (backOf (W := 0) (own_rm_min l Z a0 hw [] u2 u4 T13.heap n0 Z13) hZ (hw _ (List.mem_of_getElem? (i := 8) rfl)) (hw _ (List.mem_of_getElem? (i := 7) rfl)) (by decide) (by decide)) (g := (mkF m 51 #[.val (.long q1), .second, .val (.long q2), .second, .val (.long q3), .second, .val (.long u2), .second, .val (.long u4), .second, .val (.long u6), .second, .val (.long u10), .second, .val (.long u14), .second, .unset, .unset, .unset, .unset, .unset] [(.long u4), (.long u2)])) rfl (by rw [hml]; rfl) (argsL := [(.long u2), (.long u4)]) (rest := []) (lenOf own_pd2 rfl) rfl (by show 2 * 0 + _ ≤ _; exact Nat.le_of_eq rfl) (hb hby at_51) (fun _ _ => ⟨rfl, rfl, (by decide : 0 + 0 ≤ _), (by decide : 0 + 0 ≤ _)⟩)
  dsimp only [Pt.U, Pt.locs, Pt.cells, Pt.slots] at X15 l15 y15 z15 st15 hQ15
  subst l15 y15 z15
  obtain ⟨rfl, N15q, e15q⟩ := hQ15
  have N15 := Fr.app N13 N15q
  have Z15 : n0 ≤ T15.heap.size := by rw [e15q]; exact Z13
  obtain ⟨u16, hu16⟩ : ∃ z : Int64, z = (own_mn u2 u4) := ⟨_, rfl⟩
  rw [← hu16] at st15
  obtain ⟨_, _, ⟨T17, L17, k17, n17⟩, -, X17, ⟨Lc17, hQ17, l17, y17, z17⟩, st17⟩ := Jvm.LawKit.callS X15 hx (y := (⟨"java/lang/Math", "max", "(JJ)J"⟩ : MethodName)) hown (mvT hZ (hw _ (List.mem_of_getElem? (i := 9) rfl))) (mvT hZ (hw _ (List.mem_of_getElem? (i := 10) rfl))) (mvT hZ (hw _ (List.mem_of_getElem? (i := 7) rfl))) (mvT hZ (hw _ (List.mem_of_getElem? (i := 11) rfl))) (by decide) (backOf (W := 2) (own_rm_max l Z a0 hw [] u2 u4 T15.heap n0 Z15) hZ (hw _ (List.mem_of_getElem? (i := 11) rfl)) (hw _ (List.mem_of_getElem? (i := 7) rfl)) (by decide) (by decide)) (g := (mkF m 58 #[.val (.long q1), .second, .val (.long q2), .second, .val (.long q3), .second, .val (.long u2), .second, .val (.long u4), .second, .val (.long u6), .second, .val (.long u10), .second, .val (.long u14), .second, .unset, .unset, .unset, .unset, .unset] [(.long u4), (.long u2), (.long u16)])) rfl (by rw [hml]; rfl) (argsL := [(.long u2), (.long u4)]) (rest := [(.long u16)]) (lenOf own_pd2 rfl) rfl (by show 2 * 0 + _ ≤ _; exact Nat.le_of_eq rfl) (hb hby at_58) (fun _ _ => ⟨rfl, rfl, (by decide : 0 + 0 ≤ _), (by decide : 0 + 0 ≤ _)⟩)
  dsimp only [Pt.U, Pt.locs, Pt.cells, Pt.slots] at X17 l17 y17 z17 st17 hQ17
  subst l17 y17 z17
  obtain ⟨rfl, N17q, e17q⟩ := hQ17
  have N17 := Fr.app N15 N17q
  have Z17 : n0 ≤ T17.heap.size := by rw [e17q]; exact Z15
  obtain ⟨u18, hu18⟩ : ∃ z : Int64, z = (own_mx u2 u4) := ⟨_, rfl⟩
  rw [← hu18] at st17
  obtain ⟨_, _, ⟨T19, L19, k19, n19⟩, -, X19, ⟨Lc19, hQ19, l19, y19, z19⟩, st19⟩ := Jvm.LawKit.callS X17 hx (y := (⟨"java/lang/Math", "min", "(JJ)J"⟩ : MethodName)) hown (mvT hZ (hw _ (List.mem_of_getElem? (i := 5) rfl))) (mvT hZ (hw _ (List.mem_of_getElem? (i := 6) rfl))) (mvT hZ (hw _ (List.mem_of_getElem? (i := 7) rfl))) (mvT hZ (hw _ (List.mem_of_getElem? (i := 8) rfl))) (by decide) (backOf (W := 2) (own_rm_min l Z a0 hw [] u18 u6 T17.heap n0 Z17) hZ (hw _ (List.mem_of_getElem? (i := 8) rfl)) (hw _ (List.mem_of_getElem? (i := 7) rfl)) (by decide) (by decide)) (g := (mkF m 63 #[.val (.long q1), .second, .val (.long q2), .second, .val (.long q3), .second, .val (.long u2), .second, .val (.long u4), .second, .val (.long u6), .second, .val (.long u10), .second, .val (.long u14), .second, .unset, .unset, .unset, .unset, .unset] [(.long u6), (.long u18), (.long u16)])) rfl (by rw [hml]; rfl) (argsL := [(.long u18), (.long u6)]) (rest := [(.long u16)]) (lenOf own_pd2 rfl) rfl (by show 2 * 0 + _ ≤ _; exact Nat.le_of_eq rfl) (hb hby at_63) (fun _ _ => ⟨rfl, rfl, (by decide : 0 + 0 ≤ _), (by decide : 0 + 0 ≤ _)⟩)
  dsimp only [Pt.U, Pt.locs, Pt.cells, Pt.slots] at X19 l19 y19 z19 st19 hQ19
  subst l19 y19 z19
  obtain ⟨rfl, N19q, e19q⟩ := hQ19
  have N19 := Fr.app N17 N19q
  have Z19 : n0 ≤ T19.heap.size := by rw [e19q]; exact Z17
  obtain ⟨u20, hu20⟩ : ∃ z : Int64, z = (own_mn u18 u6) := ⟨_, rfl⟩
  rw [← hu20] at st19
  obtain ⟨_, _, ⟨T21, L21, k21, n21⟩, -, X21, ⟨Lc21, hQ21, l21, y21, z21⟩, st21⟩ := Jvm.LawKit.callS X19 hx (y := (⟨"java/lang/Math", "max", "(JJ)J"⟩ : MethodName)) hown (mvT hZ (hw _ (List.mem_of_getElem? (i := 9) rfl))) (mvT hZ (hw _ (List.mem_of_getElem? (i := 10) rfl))) (mvT hZ (hw _ (List.mem_of_getElem? (i := 7) rfl))) (mvT hZ (hw _ (List.mem_of_getElem? (i := 11) rfl))) (by decide) (backOf (W := 0) (own_rm_max l Z a0 hw [] u16 u20 T19.heap n0 Z19) hZ (hw _ (List.mem_of_getElem? (i := 11) rfl)) (hw _ (List.mem_of_getElem? (i := 7) rfl)) (by decide) (by decide)) (g := (mkF m 66 #[.val (.long q1), .second, .val (.long q2), .second, .val (.long q3), .second, .val (.long u2), .second, .val (.long u4), .second, .val (.long u6), .second, .val (.long u10), .second, .val (.long u14), .second, .unset, .unset, .unset, .unset, .unset] [(.long u20), (.long u16)])) rfl (by rw [hml]; rfl) (argsL := [(.long u16), (.long u20)]) (rest := []) (lenOf own_pd2 rfl) rfl (by show 2 * 0 + _ ≤ _; exact Nat.le_of_eq rfl) (hb hby at_66) (fun _ _ => ⟨rfl, rfl, (by decide : 0 + 0 ≤ _), (by decide : 0 + 0 ≤ _)⟩)
  dsimp only [Pt.U, Pt.locs, Pt.cells, Pt.slots] at X21 l21 y21 z21 st21 hQ21
  subst l21 y21 z21
  obtain ⟨rfl, N21q, e21q⟩ := hQ21
  have N21 := Fr.app N19 N21q
  have Z21 : n0 ≤ T21.heap.size := by rw [e21q]; exact Z19
  obtain ⟨u22, hu22⟩ : ∃ z : Int64, z = (own_mx u16 u20) := ⟨_, rfl⟩
  rw [← hu22] at st21
  have eu10 : u10 = (own_mn (own_pos q1) (own_mn (own_pos q2) (own_pos q3))) := by simp only [hu10, hu8, hu6, hu4, hu2]
  have eu14 : u14 = (own_mx (own_pos q1) (own_mx (own_pos q2) (own_pos q3))) := by simp only [hu14, hu12, hu10, hu8, hu6, hu4, hu2]
  have eu22 : u22 = (own_mx (own_mn (own_pos q1) (own_pos q2)) (own_mn (own_mx (own_pos q1) (own_pos q2)) (own_pos q3))) := by simp only [hu22, hu20, hu18, hu16, hu14, hu12, hu10, hu8, hu6, hu4, hu2]
  rw [← eu14, ← eu22] at hp
  rw [← eu10, ← eu14] at hq
  have hS := own_sorted (by rw [hu2]; exact own_pos_bounds _) (by rw [hu4]; exact own_pos_bounds _) (by rw [hu6]; exact own_pos_bounds _) hu8 hu10 hu12 hu14 hu16 hu18 hu20 hu22
  obtain ⟨T23, h23, X23, e23, E23, A23, D23, -, st23⟩ := newO X21 hx hZ hown (hw _ (List.mem_of_getElem? (i := 12) rfl)) (hw _ (List.mem_of_getElem? (i := 13) rfl)) (hw _ (List.mem_of_getElem? (i := 14) rfl)) rfl (g := (mkF m 71 #[.val (.long q1), .second, .val (.long q2), .second, .val (.long q3), .second, .val (.long u2), .second, .val (.long u4), .second, .val (.long u6), .second, .val (.long u10), .second, .val (.long u14), .second, .val (.long u22), .second, .unset, .unset, .unset] [])) rfl (hb hby at_71) (by decide) (by decide)
  obtain ⟨b23, g23⟩ : ∃ z, z = T21.heap.size := ⟨_, rfl⟩
  rw [← g23] at A23 D23 st23
  have g_b23 : n0 ≤ b23 := Nat.le_trans Z21 (Nat.le_of_eq g23.symm)
  have Z23 := Nat.le_trans Z21 E23.1
  have F23_first : Fld Z h23 b23 "com/example/beamhall/beamhall/hub/ByteRange" "first" "J" (.long (0 : Int64)) := D23 (Or.inr (hw _ (List.mem_of_getElem? (i := 27) rfl))) (ty := .long) (by decide)
  have F23_last : Fld Z h23 b23 "com/example/beamhall/beamhall/hub/ByteRange" "last" "J" (.long (0 : Int64)) := D23 (Or.inr (hw _ (List.mem_of_getElem? (i := 29) rfl))) (ty := .long) (by decide)
  obtain ⟨_, _, ⟨T24, L24, k24, n24⟩, -, X24, ⟨Lc24, hQ24, l24, y24, z24⟩, st24⟩ := X23.specialBack hx (y := (⟨"com/example/beamhall/beamhall/hub/ByteRange", "<init>", "(JJ)V"⟩ : MethodName)) rfl hown (mvT hZ (hw _ (List.mem_of_getElem? (i := 15) rfl))) (mvT hZ (hw _ (List.mem_of_getElem? (i := 16) rfl))) (mvT hZ (hw _ (List.mem_of_getElem? (i := 17) rfl))) (by decide) (backOf (W := 1) (own_rm_init l Z a0 hw [] b23 u10 u14 h23 n0 Z23 A23 F23_first F23_last g_b23) hZ (hw _ (List.mem_of_getElem? (i := 17) rfl)) (hw _ (List.mem_of_getElem? (i := 14) rfl)) (by decide) (by decide)) (g := (mkF m 79 #[.val (.long q1), .second, .val (.long q2), .second, .val (.long q3), .second, .val (.long u2), .second, .val (.long u4), .second, .val (.long u6), .second, .val (.long u10), .second, .val (.long u14), .second, .val (.long u22), .second, .unset, .unset, .unset] [(.long u14), (.long u10), (.ref b23), (.ref b23)])) rfl (by rw [hml]; rfl) (Steps.refl _) (a := b23) (argsL := [(.long u10), (.long u14)]) (rest := [(.ref b23)]) (lenOf own_pd3 rfl) rfl (by show 2 * 0 + _ ≤ _; exact Nat.le_of_eq rfl) (hb hby at_79) (fun _ _ => ⟨rfl, e23, (by decide : 1 + 0 ≤ _), (by decide : 2 + 0 ≤ _)⟩)
  dsimp only [Pt.U, Pt.locs, Pt.cells, Pt.slots] at X24 l24 y24 z24 st24 hQ24
  subst l24 y24 z24
  obtain ⟨rfl, N24q, Eq24, Ff24, Fl24, Zq24⟩ := hQ24
  have N24 := Fr.app N21 N24q
  obtain ⟨cq25, kq25, q25a, q25b, q25c⟩ := isOf hZ rfl Eq24
  obtain ⟨_, _, ⟨T25, L25, k25, n25⟩, -, X25, ⟨Lc25, hQ25, l25, y25, z25⟩, st25⟩ := X24.virtualBack hx (y := (⟨"com/example/beamhall/beamhall/hub/ByteRange", "length", "()J"⟩ : MethodName)) (z := (⟨"com/example/beamhall/beamhall/hub/ByteRange", "length", "()J"⟩ : MethodName)) hown (mvT hZ (hw _ (List.mem_of_getElem? (i := 30) rfl))) (mvT hZ (hw _ (List.mem_of_getElem? (i := 31) rfl))) (notFace_of_selects (args := #[]) (mvT hZ (hw _ (List.mem_of_getElem? (i := 33) rfl)))) (mvT hZ (hw _ (List.mem_of_getElem? (i := 33) rfl))) (mvT hZ (hw _ (List.mem_of_getElem? (i := 32) rfl))) (by decide) (backOf (W := 0) (own_rm_len l Z a0 hw [] b23 u10 u14 T24.heap n0 Zq24 Ff24 Fl24) hZ (hw _ (List.mem_of_getElem? (i := 34) rfl)) (hw _ (List.mem_of_getElem? (i := 14) rfl)) (by decide) (by decide)) q25a q25c (g := (mkF m 82 #[.val (.long q1), .second, .val (.long q2), .second, .val (.long q3), .second, .val (.long u2), .second, .val (.long u4), .second, .val (.long u6), .second, .val (.long u10), .second, .val (.long u14), .second, .val (.long u22), .second, .unset, .unset, .unset] [(.ref b23)])) rfl (by rw [hml]; rfl) (Steps.refl _) (argsL := []) (rest := []) (lenOf own_pd4 rfl) rfl (by show 2 * 0 + _ ≤ _; exact Nat.le_of_eq rfl) (hb hby at_82) (fun _ _ => ⟨rfl, rfl, (by decide : 1 + 0 ≤ _), (by decide : 2 + 0 ≤ _)⟩)
  dsimp only [Pt.U, Pt.locs, Pt.cells, Pt.slots] at X25 l25 y25 z25 st25 hQ25
  subst l25 y25 z25
  obtain ⟨rfl, N25q, e25q⟩ := hQ25
  have N25 := Fr.app N24 N25q
  have E25_b23 : Exa Z T25.heap b23 "com/example/beamhall/beamhall/hub/ByteRange" := by rw [e25q]; exact Eq24
  have Fs25_b23_first : Fld Z T25.heap b23 "com/example/beamhall/beamhall/hub/ByteRange" "first" "J" (.long u10) := by rw [e25q]; exact Ff24
  have Fs25_b23_last : Fld Z T25.heap b23 "com/example/beamhall/beamhall/hub/ByteRange" "last" "J" (.long u14) := by rw [e25q]; exact Fl24
  have Z25 : n0 ≤ T25.heap.size := by rw [e25q]; exact Zq24
  obtain ⟨w26, hw26⟩ : ∃ z : Int64, z = (own_len u10 u14) := ⟨_, rfl⟩
  obtain ⟨T27, h27, X27, e27, E27, A27, D27, -, st27⟩ := newO X25 hx hZ hown (hw _ (List.mem_of_getElem? (i := 12) rfl)) (hw _ (List.mem_of_getElem? (i := 13) rfl)) (hw _ (List.mem_of_getElem? (i := 14) rfl)) rfl (g := (mkF m 94 #[.val (.long q1), .second, .val (.long q2), .second, .val (.long q3), .second, .val (.long u2), .second, .val (.long u4), .second, .val (.long u6), .second, .val (.long u10), .second, .val (.long u14), .second, .val (.long u22), .second, .val (.long w26), .second, .unset] [])) rfl (hb hby at_94) (by decide) (by decide)
  obtain ⟨b27, g27⟩ : ∃ z, z = T25.heap.size := ⟨_, rfl⟩
  rw [← g27] at A27 D27 st27
  have g_b27 : n0 ≤ b27 := Nat.le_trans Z25 (Nat.le_of_eq g27.symm)
  have Z27 := Nat.le_trans Z25 E27.1
  have F27_first : Fld Z h27 b27 "com/example/beamhall/beamhall/hub/ByteRange" "first" "J" (.long (0 : Int64)) := D27 (Or.inr (hw _ (List.mem_of_getElem? (i := 27) rfl))) (ty := .long) (by decide)
  have F27_last : Fld Z h27 b27 "com/example/beamhall/beamhall/hub/ByteRange" "last" "J" (.long (0 : Int64)) := D27 (Or.inr (hw _ (List.mem_of_getElem? (i := 29) rfl))) (ty := .long) (by decide)
  obtain ⟨_, _, ⟨T28, L28, k28, n28⟩, -, X28, ⟨Lc28, hQ28, l28, y28, z28⟩, st28⟩ := X27.specialBack hx (y := (⟨"com/example/beamhall/beamhall/hub/ByteRange", "<init>", "(JJ)V"⟩ : MethodName)) rfl hown (mvT hZ (hw _ (List.mem_of_getElem? (i := 15) rfl))) (mvT hZ (hw _ (List.mem_of_getElem? (i := 16) rfl))) (mvT hZ (hw _ (List.mem_of_getElem? (i := 17) rfl))) (by decide) (backOf (W := 1) (own_rm_init l Z a0 hw [] b27 u22 u22 h27 n0 Z27 A27 F27_first F27_last g_b27) hZ (hw _ (List.mem_of_getElem? (i := 17) rfl)) (hw _ (List.mem_of_getElem? (i := 14) rfl)) (by decide) (by decide)) (g := (mkF m 102 #[.val (.long q1), .second, .val (.long q2), .second, .val (.long q3), .second, .val (.long u2), .second, .val (.long u4), .second, .val (.long u6), .second, .val (.long u10), .second, .val (.long u14), .second, .val (.long u22), .second, .val (.long w26), .second, .unset] [(.long u22), (.long u22), (.ref b27), (.ref b27)])) rfl (by rw [hml]; rfl) (Steps.refl _) (a := b27) (argsL := [(.long u22), (.long u22)]) (rest := [(.ref b27)]) (lenOf own_pd3 rfl) rfl (by show 2 * 0 + _ ≤ _; exact Nat.le_of_eq rfl) (hb hby at_102) (fun _ _ => ⟨rfl, e27, (by decide : 2 + 0 ≤ _), (by decide : 4 + 0 ≤ _)⟩)
  dsimp only [Pt.U, Pt.locs, Pt.cells, Pt.slots] at X28 l28 y28 z28 st28 hQ28
  subst l28 y28 z28
  obtain ⟨rfl, N28q, Eq28, Ff28, Fl28, Zq28⟩ := hQ28
  have N28 := Fr.app N25 N28q
  obtain ⟨cq29, kq29, q29a, q29b, q29c⟩ := isOf hZ rfl Eq28
  obtain ⟨_, _, ⟨T29, L29, k29, n29⟩, -, X29, ⟨Lc29, hQ29, l29, y29, z29⟩, st29⟩ := X28.virtualBack hx (y := (⟨"com/example/beamhall/beamhall/hub/ByteRange", "length", "()J"⟩ : MethodName)) (z := (⟨"com/example/beamhall/beamhall/hub/ByteRange", "length", "()J"⟩ : MethodName)) hown (mvT hZ (hw _ (List.mem_of_getElem? (i := 30) rfl))) (mvT hZ (hw _ (List.mem_of_getElem? (i := 31) rfl))) (notFace_of_selects (args := #[]) (mvT hZ (hw _ (List.mem_of_getElem? (i := 33) rfl)))) (mvT hZ (hw _ (List.mem_of_getElem? (i := 33) rfl))) (mvT hZ (hw _ (List.mem_of_getElem? (i := 32) rfl))) (by decide) (backOf (W := 0) (own_rm_len l Z a0 hw [] b27 u22 u22 T28.heap n0 Zq28 Ff28 Fl28) hZ (hw _ (List.mem_of_getElem? (i := 34) rfl)) (hw _ (List.mem_of_getElem? (i := 14) rfl)) (by decide) (by decide)) q29a q29c (g := (mkF m 105 #[.val (.long q1), .second, .val (.long q2), .second, .val (.long q3), .second, .val (.long u2), .second, .val (.long u4), .second, .val (.long u6), .second, .val (.long u10), .second, .val (.long u14), .second, .val (.long u22), .second, .val (.long w26), .second, .unset] [(.ref b27)])) rfl (by rw [hml]; rfl) (Steps.refl _) (argsL := []) (rest := []) (lenOf own_pd4 rfl) rfl (by show 2 * 0 + _ ≤ _; exact Nat.le_of_eq rfl) (hb hby at_105) (fun _ _ => ⟨rfl, rfl, (by decide : 2 + 0 ≤ _), (by decide : 4 + 0 ≤ _)⟩)
  dsimp only [Pt.U, Pt.locs, Pt.cells, Pt.slots] at X29 l29 y29 z29 st29 hQ29
  subst l29 y29 z29
  obtain ⟨rfl, N29q, e29q⟩ := hQ29
  have N29 := Fr.app N28 N29q
  have E29_b27 : Exa Z T29.heap b27 "com/example/beamhall/beamhall/hub/ByteRange" := by rw [e29q]; exact Eq28
  have Fs29_b27_first : Fld Z T29.heap b27 "com/example/beamhall/beamhall/hub/ByteRange" "first" "J" (.long u22) := by rw [e29q]; exact Ff28
  have Fs29_b27_last : Fld Z T29.heap b27 "com/example/beamhall/beamhall/hub/ByteRange" "last" "J" (.long u22) := by rw [e29q]; exact Fl28
  have Z29 : n0 ≤ T29.heap.size := by rw [e29q]; exact Zq28
  obtain ⟨fs, hr, hrun, hended, hW, hsame⟩ := X29.leave (v := some (.int (1 : Int32))) (fun h => by rw [Bd.returns] at h; cases h)
  refine ⟨_, _, pre0 _ ?_, hrun, hended, _, _, rfl, ?_, ⟨_, rfl⟩, hW, hsame.mono (by decide) (by decide)⟩
  · show Steps p.tables e below (s₁.setTop (mkF m 0 #[.val (.long q1), .second, .val (.long q2), .second, .val (.long q3), .second, .unset, .unset, .unset, .unset, .unset, .unset, .unset, .unset, .unset, .unset, .unset, .unset, .unset, .unset, .unset] [])) _
    refine XS.lloadN X0.here hx rfl (hb hby at_0) rfl ?_
    show Steps p.tables e below (s₁.setTop (mkF m 1 #[.val (.long q1), .second, .val (.long q2), .second, .val (.long q3), .second, .unset, .unset, .unset, .unset, .unset, .unset, .unset, .unset, .unset, .unset, .unset, .unset, .unset, .unset, .unset] [(.long q1)])) _
    refine st1 _ ?_
    show Steps p.tables e below (T1.setTop (mkF m 4 #[.val (.long q1), .second, .val (.long q2), .second, .val (.long q3), .second, .unset, .unset, .unset, .unset, .unset, .unset, .unset, .unset, .unset, .unset, .unset, .unset, .unset, .unset, .unset] [(.long u2)])) _
    refine XS.lstore X1.here hx rfl (hb hby at_4) rfl (l' := #[.val (.long q1), .second, .val (.long q2), .second, .val (.long q3), .second, .val (.long u2), .second, .unset, .unset, .unset, .unset, .unset, .unset, .unset, .unset, .unset, .unset, .unset, .unset, .unset]) rfl ?_
    show Steps p.tables e below (T1.setTop (mkF m 6 #[.val (.long q1), .second, .val (.long q2), .second, .val (.long q3), .second, .val (.long u2), .second, .unset, .unset, .unset, .unset, .unset, .unset, .unset, .unset, .unset, .unset, .unset, .unset, .unset] [])) _
    refine XS.lloadN X1.here hx rfl (hb hby at_6) rfl ?_
    show Steps p.tables e below (T1.setTop (mkF m 7 #[.val (.long q1), .second, .val (.long q2), .second, .val (.long q3), .second, .val (.long u2), .second, .unset, .unset, .unset, .unset, .unset, .unset, .unset, .unset, .unset, .unset, .unset, .unset, .unset] [(.long q2)])) _
    refine st3 _ ?_
    show Steps p.tables e below (T3.setTop (mkF m 10 #[.val (.long q1), .second, .val (.long q2), .second, .val (.long q3), .second, .val (.long u2), .second, .unset, .unset, .unset, .unset, .unset, .unset, .unset, .unset, .unset, .unset, .unset, .unset, .unset] [(.long u4)])) _
    refine XS.lstore X3.here hx rfl (hb hby at_10) rfl (l' := #[.val (.long q1), .second, .val (.long q2), .second, .val (.long q3), .second, .val (.long u2), .second, .val (.long u4), .second, .unset, .unset, .unset, .unset, .unset, .unset, .unset, .unset, .unset, .unset, .unset]) rfl ?_
    show Steps p.tables e below (T3.setTop (mkF m 12 #[.val (.long q1), .second, .val (.long q2), .second, .val (.long q3), .second, .val (.long u2), .second, .val (.long u4), .second, .unset, .unset, .unset, .unset, .unset, .unset, .unset, .unset, .unset, .unset, .unset] [])) _
    refine XS.lload X3.here hx rfl (hb hby at_12) rfl ?_
    show Steps p.tables e below (T3.setTop (mkF m 14 #[.val (.long q1), .second, .val (.long q2), .second, .val (.long q3), .second, .val (.long u2), .second, .val (.long u4), .second, .unset, .unset, .unset, .unset, .unset, .unset, .unset, .unset, .unset, .unset, .unset] [(.long q3)])) _
    refine st5 _ ?_
    show Steps p.tables e below (T5.setTop (mkF m 17 #[.val (.long q1), .second, .val (.long q2), .second, .val (.long q3), .second, .val (.long u2), .second, .val (.long u4), .second, .unset, .unset, .unset, .unset, .unset, .unset, .unset, .unset, .unset, .unset, .unset] [(.long u6)])) _
    refine XS.lstore X5.here hx rfl (hb hby at_17) rfl (l' := #[.val (.long q1), .second, .val (.long q2), .second, .val (.long q3), .second, .val (.long u2), .second, .val (.long u4), .second, .val (.long u6), .second, .unset, .unset, .unset, .unset, .unset, .unset, .unset, .unset, .unset]) rfl ?_
    show Steps p.tables e below (T5.setTop (mkF m 19 #[.val (.long q1), .second, .val (.long q2), .second, .val (.long q3), .second, .val (.long u2), .second, .val (.long u4), .second, .val (.long u6), .second, .unset, .unset, .unset, .unset, .unset, .unset, .unset, .unset, .unset] [])) _
    refine XS.lload X5.here hx rfl (hb hby at_19) rfl ?_
    show Steps p.tables e below (T5.setTop (mkF m 21 #[.val (.long q1), .second, .val (.long q2), .second, .val (.long q3), .second, .val (.long u2), .second, .val (.long u4), .second, .val (.long u6), .second, .unset, .unset, .unset, .unset, .unset, .unset, .unset, .unset, .unset] [(.long u2)])) _
    refine XS.lload X5.here hx rfl (hb hby at_21) rfl ?_
    show Steps p.tables e below (T5.setTop (mkF m 23 #[.val (.long q1), .second, .val (.long q2), .second, .val (.long q3), .second, .val (.long u2), .second, .val (.long u4), .second, .val (.long u6), .second, .unset, .unset, .unset, .unset, .unset, .unset, .unset, .unset, .unset] [(.long u4), (.long u2)])) _
    refine XS.lload X5.here hx rfl (hb hby at_23) rfl ?_
    show Steps p.tables e below (T5.setTop (mkF m 25 #[.val (.long q1), .second, .val (.long q2), .second, .val (.long q3), .second, .val (.long u2), .second, .val (.long u4), .second, .val (.long u6), .second, .unset, .unset, .unset, .unset, .unset, .unset, .unset, .unset, .unset] [(.long u6), (.long u4), (.long u2)])) _
    refine st7 _ ?_
    show Steps p.tables e below (T7.setTop (mkF m 28 #[.val (.long q1), .second, .val (.long q2), .second, .val (.long q3), .second, .val (.long u2), .second, .val (.long u4), .second, .val (.long u6), .second, .unset, .unset, .unset, .unset, .unset, .unset, .unset, .unset, .unset] [(.long u8), (.long u2)])) _
    refine st9 _ ?_
    show Steps p.tables e below (T9.setTop (mkF m 31 #[.val (.long q1), .second, .val (.long q2), .second, .val (.long q3), .second, .val (.long u2), .second, .val (.long u4), .second, .val (.long u6), .second, .unset, .unset, .unset, .unset, .unset, .unset, .unset, .unset, .unset] [(.long u10)])) _
    refine XS.lstore X9.here hx rfl (hb hby at_31) rfl (l' := #[.val (.long q1), .second, .val (.long q2), .second, .val (.long q3), .second, .val (.long u2), .second, .val (.long u4), .second, .val (.long u6), .second, .val (.long u10), .second, .unset, .unset, .unset, .unset, .unset, .unset, .unset]) rfl ?_
    show Steps p.tables e below (T9.setTop (mkF m 33 #[.val (.long q1), .second, .val (.long q2), .second, .val (.long q3), .second, .val (.long u2), .second, .val (.long u4), .second, .val (.long u6), .second, .val (.long u10), .second, .unset, .unset, .unset, .unset, .unset, .unset, .unset] [])) _
    refine XS.lload X9.here hx rfl (hb hby at_33) rfl ?_
    show Steps p.tables e below (T9.setTop (mkF m 35 #[.val (.long q1), .second, .val (.long q2), .second, .val (.long q3), .second, .val (.long u2), .second, .val (.long u4), .second, .val (.long u6), .second, .val (.long u10), .second, .unset, .unset, .unset, .unset, .unset, .unset, .unset] [(.long u2)])) _
    refine XS.lload X9.here hx rfl (hb hby at_35) rfl ?_
    show Steps p.tables e below (T9.setTop (mkF m 37 #[.val (.long q1), .second, .val (.long q2), .second, .val (.long q3), .second, .val (.long u2), .second, .val (.long u4), .second, .val (.long u6), .second, .val (.long u10), .second, .unset, .unset, .unset, .unset, .unset, .unset, .unset] [(.long u4), (.long u2)])) _
    refine XS.lload X9.here hx rfl (hb hby at_37) rfl ?_
    show Steps p.tables e below (T9.setTop (mkF m 39 #[.val (.long q1), .second, .val (.long q2), .second, .val (.long q3), .second, .val (.long u2), .second, .val (.long u4), .second, .val (.long u6), .second, .val (.long u10), .second, .unset, .unset, .unset, .unset, .unset, .unset, .unset] [(.long u6), (.long u4), (.long u2)])) _
    refine st11 _ ?_
    show Steps p.tables e below (T11.setTop (mkF m 42 #[.val (.long q1), .second, .val (.long q2), .second, .val (.long q3), .second, .val (.long u2), .second, .val (.long u4), .second, .val (.long u6), .second, .val (.long u10), .second, .unset, .unset, .unset, .unset, .unset, .unset, .unset] [(.long u12), (.long u2)])) _
    refine st13 _ ?_
    show Steps p.tables e below (T13.setTop (mkF m 45 #[.val (.long q1), .second, .val (.long q2), .second, .val (.long q3), .second, .val (.long u2), .second, .val (.long u4), .second, .val (.long u6), .second, .val (.long u10), .second, .unset, .unset, .unset, .unset, .unset, .unset, .unset] [(.long u14)])) _
    refine XS.lstore X13.here hx rfl (hb hby at_45) rfl (l' := #[.val (.long q1), .second, .val (.long q2), .second, .val (.long q3), .second, .val (.long u2), .second, .val (.long u4), .second, .val (.long u6), .second, .val (.long u10), .second, .val (.long u14), .second, .unset, .unset, .unset, .unset, .unset]) rfl ?_
    show Steps p.tables e below (T13.setTop (mkF m 47 #[.val (.long q1), .second, .val (.long q2), .second, .val (.long q3), .second, .val (.long u2), .second, .val (.long u4), .second, .val (.long u6), .second, .val (.long u10), .second, .val (.long u14), .second, .unset, .unset, .unset, .unset, .unset] [])) _
    refine XS.lload X13.here hx rfl (hb hby at_47) rfl ?_
    show Steps p.tables e below (T13.setTop (mkF m 49 #[.val (.long q1), .second, .val (.long q2), .second, .val (.long q3), .second, .val (.long u2), .second, .val (.long u4), .second, .val (.long u6), .second, .val (.long u10), .second, .val (.long u14), .second, .unset, .unset, .unset, .unset, .unset] [(.long u2)])) _
    refine XS.lload X13.here hx rfl (hb hby at_49) rfl ?_
    show Steps p.tables e below (T13.setTop (mkF m 51 #[.val (.long q1), .second, .val (.long q2), .second, .val (.long q3), .second, .val (.long u2), .second, .val (.long u4), .second, .val (.long u6), .second, .val (.long u10), .second, .val (.long u14), .second, .unset, .unset, .unset, .unset, .unset] [(.long u4), (.long u2)])) _
    refine st15 _ ?_
    show Steps p.tables e below (T15.setTop (mkF m 54 #[.val (.long q1), .second, .val (.long q2), .second, .val (.long q3), .second, .val (.long u2), .second, .val (.long u4), .second, .val (.long u6), .second, .val (.long u10), .second, .val (.long u14), .second, .unset, .unset, .unset, .unset, .unset] [(.long u16)])) _
    refine XS.lload X15.here hx rfl (hb hby at_54) rfl ?_
    show Steps p.tables e below (T15.setTop (mkF m 56 #[.val (.long q1), .second, .val (.long q2), .second, .val (.long q3), .second, .val (.long u2), .second, .val (.long u4), .second, .val (.long u6), .second, .val (.long u10), .second, .val (.long u14), .second, .unset, .unset, .unset, .unset, .unset] [(.long u2), (.long u16)])) _
    refine XS.lload X15.here hx rfl (hb hby at_56) rfl ?_
    show Steps p.tables e below (T15.setTop (mkF m 58 #[.val (.long q1), .second, .val (.long q2), .second, .val (.long q3), .second, .val (.long u2), .second, .val (.long u4), .second, .val (.long u6), .second, .val (.long u10), .second, .val (.long u14), .second, .unset, .unset, .unset, .unset, .unset] [(.long u4), (.long u2), (.long u16)])) _
    refine st17 _ ?_
    show Steps p.tables e below (T17.setTop (mkF m 61 #[.val (.long q1), .second, .val (.long q2), .second, .val (.long q3), .second, .val (.long u2), .second, .val (.long u4), .second, .val (.long u6), .second, .val (.long u10), .second, .val (.long u14), .second, .unset, .unset, .unset, .unset, .unset] [(.long u18), (.long u16)])) _
    refine XS.lload X17.here hx rfl (hb hby at_61) rfl ?_
    show Steps p.tables e below (T17.setTop (mkF m 63 #[.val (.long q1), .second, .val (.long q2), .second, .val (.long q3), .second, .val (.long u2), .second, .val (.long u4), .second, .val (.long u6), .second, .val (.long u10), .second, .val (.long u14), .second, .unset, .unset, .unset, .unset, .unset] [(.long u6), (.long u18), (.long u16)])) _
    refine st19 _ ?_
    show Steps p.tables e below (T19.setTop (mkF m 66 #[.val (.long q1), .second, .val (.long q2), .second, .val (.long q3), .second, .val (.long u2), .second, .val (.long u4), .second, .val (.long u6), .second, .val (.long u10), .second, .val (.long u14), .second, .unset, .unset, .unset, .unset, .unset] [(.long u20), (.long u16)])) _
    refine st21 _ ?_
    show Steps p.tables e below (T21.setTop (mkF m 69 #[.val (.long q1), .second, .val (.long q2), .second, .val (.long q3), .second, .val (.long u2), .second, .val (.long u4), .second, .val (.long u6), .second, .val (.long u10), .second, .val (.long u14), .second, .unset, .unset, .unset, .unset, .unset] [(.long u22)])) _
    refine XS.lstore X21.here hx rfl (hb hby at_69) rfl (l' := #[.val (.long q1), .second, .val (.long q2), .second, .val (.long q3), .second, .val (.long u2), .second, .val (.long u4), .second, .val (.long u6), .second, .val (.long u10), .second, .val (.long u14), .second, .val (.long u22), .second, .unset, .unset, .unset]) rfl ?_
    show Steps p.tables e below (T21.setTop (mkF m 71 #[.val (.long q1), .second, .val (.long q2), .second, .val (.long q3), .second, .val (.long u2), .second, .val (.long u4), .second, .val (.long u6), .second, .val (.long u10), .second, .val (.long u14), .second, .val (.long u22), .second, .unset, .unset, .unset] [])) _
    refine st23 _ ?_
    show Steps p.tables e below (T23.setTop (mkF m 74 #[.val (.long q1), .second, .val (.long q2), .second, .val (.long q3), .second, .val (.long u2), .second, .val (.long u4), .second, .val (.long u6), .second, .val (.long u10), .second, .val (.long u14), .second, .val (.long u22), .second, .unset, .unset, .unset] [(.ref b23)])) _
    refine XS.dup X23.here hx rfl (hb hby at_74) rfl rfl ?_
    show Steps p.tables e below (T23.setTop (mkF m 75 #[.val (.long q1), .second, .val (.long q2), .second, .val (.long q3), .second, .val (.long u2), .second, .val (.long u4), .second, .val (.long u6), .second, .val (.long u10), .second, .val (.long u14), .second, .val (.long u22), .second, .unset, .unset, .unset] [(.ref b23), (.ref b23)])) _
    refine XS.lload X23.here hx rfl (hb hby at_75) rfl ?_
    show Steps p.tables e below (T23.setTop (mkF m 77 #[.val (.long q1), .second, .val (.long q2), .second, .val (.long q3), .second, .val (.long u2), .second, .val (.long u4), .second, .val (.long u6), .second, .val (.long u10), .second, .val (.long u14), .second, .val (.long u22), .second, .unset, .unset, .unset] [(.long u10), (.ref b23), (.ref b23)])) _
    refine XS.lload X23.here hx rfl (hb hby at_77) rfl ?_
    show Steps p.tables e below (T23.setTop (mkF m 79 #[.val (.long q1), .second, .val (.long q2), .second, .val (.long q3), .second, .val (.long u2), .second, .val (.long u4), .second, .val (.long u6), .second, .val (.long u10), .second, .val (.long u14), .second, .val (.long u22), .second, .unset, .unset, .unset] [(.long u14), (.long u10), (.ref b23), (.ref b23)])) _
    refine st24.trans ?_
    show Steps p.tables e below (T24.setTop (mkF m 82 #[.val (.long q1), .second, .val (.long q2), .second, .val (.long q3), .second, .val (.long u2), .second, .val (.long u4), .second, .val (.long u6), .second, .val (.long u10), .second, .val (.long u14), .second, .val (.long u22), .second, .unset, .unset, .unset] [(.ref b23)])) _
    refine st25.trans ?_
    show Steps p.tables e below (T25.setTop (mkF m 85 #[.val (.long q1), .second, .val (.long q2), .second, .val (.long q3), .second, .val (.long u2), .second, .val (.long u4), .second, .val (.long u6), .second, .val (.long u10), .second, .val (.long u14), .second, .val (.long u22), .second, .unset, .unset, .unset] [(.long (own_len u10 u14))])) _
    rw [← hw26]
    show Steps p.tables e below (T25.setTop (mkF m 85 #[.val (.long q1), .second, .val (.long q2), .second, .val (.long q3), .second, .val (.long u2), .second, .val (.long u4), .second, .val (.long u6), .second, .val (.long u10), .second, .val (.long u14), .second, .val (.long u22), .second, .unset, .unset, .unset] [(.long w26)])) _
    refine XS.lstore X25.here hx rfl (hb hby at_85) rfl (l' := #[.val (.long q1), .second, .val (.long q2), .second, .val (.long q3), .second, .val (.long u2), .second, .val (.long u4), .second, .val (.long u6), .second, .val (.long u10), .second, .val (.long u14), .second, .val (.long u22), .second, .val (.long w26), .second, .unset]) rfl ?_
    show Steps p.tables e below (T25.setTop (mkF m 87 #[.val (.long q1), .second, .val (.long q2), .second, .val (.long q3), .second, .val (.long u2), .second, .val (.long u4), .second, .val (.long u6), .second, .val (.long u10), .second, .val (.long u14), .second, .val (.long u22), .second, .val (.long w26), .second, .unset] [])) _
    refine XS.lload X25.here hx rfl (hb hby at_87) rfl ?_
    show Steps p.tables e below (T25.setTop (mkF m 89 #[.val (.long q1), .second, .val (.long q2), .second, .val (.long q3), .second, .val (.long u2), .second, .val (.long u4), .second, .val (.long u6), .second, .val (.long u10), .second, .val (.long u14), .second, .val (.long u22), .second, .val (.long w26), .second, .unset] [(.long w26)])) _
    refine XS.lconst X25.here hx rfl (hb hby at_89) ?_
    show Steps p.tables e below (T25.setTop (mkF m 90 #[.val (.long q1), .second, .val (.long q2), .second, .val (.long q3), .second, .val (.long u2), .second, .val (.long u4), .second, .val (.long u6), .second, .val (.long u10), .second, .val (.long u14), .second, .val (.long u22), .second, .val (.long w26), .second, .unset] [(.long (1 : Int64)), (.long w26)])) _
    refine XS.lcmp X25.here hx rfl (hb hby at_90) rfl ?_
    show Steps p.tables e below (T25.setTop (mkF m 91 #[.val (.long q1), .second, .val (.long q2), .second, .val (.long q3), .second, .val (.long u2), .second, .val (.long u4), .second, .val (.long u6), .second, .val (.long u10), .second, .val (.long u14), .second, .val (.long u22), .second, .val (.long w26), .second, .unset] [(.int (lcmpW w26 (1 : Int64)))])) _
    refine XS.ifNo X25.here hx rfl (hb hby at_91) rfl ((if0 _ _).trans (flt (fun q => (own_whole hS hw26) ((lw_lt _ _).mp q))).1) ?_
    show Steps p.tables e below (T25.setTop (mkF m 94 #[.val (.long q1), .second, .val (.long q2), .second, .val (.long q3), .second, .val (.long u2), .second, .val (.long u4), .second, .val (.long u6), .second, .val (.long u10), .second, .val (.long u14), .second, .val (.long u22), .second, .val (.long w26), .second, .unset] [])) _
    refine st27 _ ?_
    show Steps p.tables e below (T27.setTop (mkF m 97 #[.val (.long q1), .second, .val (.long q2), .second, .val (.long q3), .second, .val (.long u2), .second, .val (.long u4), .second, .val (.long u6), .second, .val (.long u10), .second, .val (.long u14), .second, .val (.long u22), .second, .val (.long w26), .second, .unset] [(.ref b27)])) _
    refine XS.dup X27.here hx rfl (hb hby at_97) rfl rfl ?_
    show Steps p.tables e below (T27.setTop (mkF m 98 #[.val (.long q1), .second, .val (.long q2), .second, .val (.long q3), .second, .val (.long u2), .second, .val (.long u4), .second, .val (.long u6), .second, .val (.long u10), .second, .val (.long u14), .second, .val (.long u22), .second, .val (.long w26), .second, .unset] [(.ref b27), (.ref b27)])) _
    refine XS.lload X27.here hx rfl (hb hby at_98) rfl ?_
    show Steps p.tables e below (T27.setTop (mkF m 100 #[.val (.long q1), .second, .val (.long q2), .second, .val (.long q3), .second, .val (.long u2), .second, .val (.long u4), .second, .val (.long u6), .second, .val (.long u10), .second, .val (.long u14), .second, .val (.long u22), .second, .val (.long w26), .second, .unset] [(.long u22), (.ref b27), (.ref b27)])) _
    refine XS.lload X27.here hx rfl (hb hby at_100) rfl ?_
    show Steps p.tables e below (T27.setTop (mkF m 102 #[.val (.long q1), .second, .val (.long q2), .second, .val (.long q3), .second, .val (.long u2), .second, .val (.long u4), .second, .val (.long u6), .second, .val (.long u10), .second, .val (.long u14), .second, .val (.long u22), .second, .val (.long w26), .second, .unset] [(.long u22), (.long u22), (.ref b27), (.ref b27)])) _
    refine st28.trans ?_
    show Steps p.tables e below (T28.setTop (mkF m 105 #[.val (.long q1), .second, .val (.long q2), .second, .val (.long q3), .second, .val (.long u2), .second, .val (.long u4), .second, .val (.long u6), .second, .val (.long u10), .second, .val (.long u14), .second, .val (.long u22), .second, .val (.long w26), .second, .unset] [(.ref b27)])) _
    refine st29.trans ?_
    show Steps p.tables e below (T29.setTop (mkF m 108 #[.val (.long q1), .second, .val (.long q2), .second, .val (.long q3), .second, .val (.long u2), .second, .val (.long u4), .second, .val (.long u6), .second, .val (.long u10), .second, .val (.long u14), .second, .val (.long u22), .second, .val (.long w26), .second, .unset] [(.long (own_len u22 u22))])) _
    refine XS.lconst X29.here hx rfl (hb hby at_108) ?_
    show Steps p.tables e below (T29.setTop (mkF m 109 #[.val (.long q1), .second, .val (.long q2), .second, .val (.long q3), .second, .val (.long u2), .second, .val (.long u4), .second, .val (.long u6), .second, .val (.long u10), .second, .val (.long u14), .second, .val (.long u22), .second, .val (.long w26), .second, .unset] [(.long (1 : Int64)), (.long (own_len u22 u22))])) _
    refine XS.lcmp X29.here hx rfl (hb hby at_109) rfl ?_
    show Steps p.tables e below (T29.setTop (mkF m 110 #[.val (.long q1), .second, .val (.long q2), .second, .val (.long q3), .second, .val (.long u2), .second, .val (.long u4), .second, .val (.long u6), .second, .val (.long u10), .second, .val (.long u14), .second, .val (.long u22), .second, .val (.long w26), .second, .unset] [(.int (lcmpW (own_len u22 u22) (1 : Int64)))])) _
    refine XS.ifNo X29.here hx rfl (hb hby at_110) rfl ((if0 _ _).trans (teq ((lw_eq _ _).mpr (own_one hS))).2) ?_
    show Steps p.tables e below (T29.setTop (mkF m 113 #[.val (.long q1), .second, .val (.long q2), .second, .val (.long q3), .second, .val (.long u2), .second, .val (.long u4), .second, .val (.long u6), .second, .val (.long u10), .second, .val (.long u14), .second, .val (.long u22), .second, .val (.long w26), .second, .unset] [])) _
    refine XS.iconst X29.here hx rfl (hb hby at_113) ?_
    show Steps p.tables e below (T29.setTop (mkF m 114 #[.val (.long q1), .second, .val (.long q2), .second, .val (.long q3), .second, .val (.long u2), .second, .val (.long u4), .second, .val (.long u6), .second, .val (.long u10), .second, .val (.long u14), .second, .val (.long u22), .second, .val (.long w26), .second, .unset] [(.int (1 : Int32))])) _
    refine XS.goto X29.here hx rfl (pc0 := 114) (pc' := 118) rfl (hb hby at_114) (by decide) (by decide) ?_
    show Steps p.tables e below (T29.setTop (mkF m 118 #[.val (.long q1), .second, .val (.long q2), .second, .val (.long q3), .second, .val (.long u2), .second, .val (.long u4), .second, .val (.long u6), .second, .val (.long u10), .second, .val (.long u14), .second, .val (.long u22), .second, .val (.long w26), .second, .unset] [(.int (1 : Int32))])) _
    refine XS.istore X29.here hx rfl (hb hby at_118) rfl (l' := #[.val (.long q1), .second, .val (.long q2), .second, .val (.long q3), .second, .val (.long u2), .second, .val (.long u4), .second, .val (.long u6), .second, .val (.long u10), .second, .val (.long u14), .second, .val (.long u22), .second, .val (.long w26), .second, .val (.int (1 : Int32))]) rfl ?_
    show Steps p.tables e below (T29.setTop (mkF m 120 #[.val (.long q1), .second, .val (.long q2), .second, .val (.long q3), .second, .val (.long u2), .second, .val (.long u4), .second, .val (.long u6), .second, .val (.long u10), .second, .val (.long u14), .second, .val (.long u22), .second, .val (.long w26), .second, .val (.int (1 : Int32))] [])) _
    refine XS.lload X29.here hx rfl (hb hby at_120) rfl ?_
    show Steps p.tables e below (T29.setTop (mkF m 122 #[.val (.long q1), .second, .val (.long q2), .second, .val (.long q3), .second, .val (.long u2), .second, .val (.long u4), .second, .val (.long u6), .second, .val (.long u10), .second, .val (.long u14), .second, .val (.long u22), .second, .val (.long w26), .second, .val (.int (1 : Int32))] [(.long u22)])) _
    refine XS.lload X29.here hx rfl (hb hby at_122) rfl ?_
    show Steps p.tables e below (T29.setTop (mkF m 124 #[.val (.long q1), .second, .val (.long q2), .second, .val (.long q3), .second, .val (.long u2), .second, .val (.long u4), .second, .val (.long u6), .second, .val (.long u10), .second, .val (.long u14), .second, .val (.long u22), .second, .val (.long w26), .second, .val (.int (1 : Int32))] [(.long u14), (.long u22)])) _
    refine XS.lcmp X29.here hx rfl (hb hby at_124) rfl ?_
    show Steps p.tables e below (T29.setTop (mkF m 125 #[.val (.long q1), .second, .val (.long q2), .second, .val (.long q3), .second, .val (.long u2), .second, .val (.long u4), .second, .val (.long u6), .second, .val (.long u10), .second, .val (.long u14), .second, .val (.long u22), .second, .val (.long w26), .second, .val (.int (1 : Int32))] [(.int (lcmpW u22 u14))])) _
    refine XS.ifYes X29.here hx rfl (pc0 := 125) (pc' := 180) rfl (hb hby at_125) rfl ((if0 _ _).trans (flt (fun q => hp ((lw_lt _ _).mp q))).2.1) (by decide) (by decide) ?_
    show Steps p.tables e below (T29.setTop (mkF m 180 #[.val (.long q1), .second, .val (.long q2), .second, .val (.long q3), .second, .val (.long u2), .second, .val (.long u4), .second, .val (.long u6), .second, .val (.long u10), .second, .val (.long u14), .second, .val (.long u22), .second, .val (.long w26), .second, .val (.int (1 : Int32))] [])) _
    refine XS.lload X29.here hx rfl (hb hby at_180) rfl ?_
    show Steps p.tables e below (T29.setTop (mkF m 182 #[.val (.long q1), .second, .val (.long q2), .second, .val (.long q3), .second, .val (.long u2), .second, .val (.long u4), .second, .val (.long u6), .second, .val (.long u10), .second, .val (.long u14), .second, .val (.long u22), .second, .val (.long w26), .second, .val (.int (1 : Int32))] [(.long u10)])) _
    refine XS.lload X29.here hx rfl (hb hby at_182) rfl ?_
    show Steps p.tables e below (T29.setTop (mkF m 184 #[.val (.long q1), .second, .val (.long q2), .second, .val (.long q3), .second, .val (.long u2), .second, .val (.long u4), .second, .val (.long u6), .second, .val (.long u10), .second, .val (.long u14), .second, .val (.long u22), .second, .val (.long w26), .second, .val (.int (1 : Int32))] [(.long u14), (.long u10)])) _
    refine XS.lcmp X29.here hx rfl (hb hby at_184) rfl ?_
    show Steps p.tables e below (T29.setTop (mkF m 185 #[.val (.long q1), .second, .val (.long q2), .second, .val (.long q3), .second, .val (.long u2), .second, .val (.long u4), .second, .val (.long u6), .second, .val (.long u10), .second, .val (.long u14), .second, .val (.long u22), .second, .val (.long w26), .second, .val (.int (1 : Int32))] [(.int (lcmpW u10 u14))])) _
    refine XS.ifYes X29.here hx rfl (pc0 := 185) (pc' := 237) rfl (hb hby at_185) rfl ((if0 _ _).trans (flt (fun q => hq ((lw_lt _ _).mp q))).2.1) (by decide) (by decide) ?_
    show Steps p.tables e below (T29.setTop (mkF m 237 #[.val (.long q1), .second, .val (.long q2), .second, .val (.long q3), .second, .val (.long u2), .second, .val (.long u4), .second, .val (.long u6), .second, .val (.long u10), .second, .val (.long u14), .second, .val (.long u22), .second, .val (.long w26), .second, .val (.int (1 : Int32))] [])) _
    refine XS.iload X29.here hx rfl (hb hby at_237) rfl ?_
    show Steps p.tables e below (T29.setTop (mkF m 239 #[.val (.long q1), .second, .val (.long q2), .second, .val (.long q3), .second, .val (.long u2), .second, .val (.long u4), .second, .val (.long u6), .second, .val (.long u10), .second, .val (.long u14), .second, .val (.long u22), .second, .val (.long w26), .second, .val (.int (1 : Int32))] [(.int (1 : Int32))])) _
    exact retN X29 hx (t := .boolean) Bd.returns (by simp) (hb hby at_239) hr
  · show own_Q_law Z q1 q2 q3  h0 n0 _ T29.heap _
    exact ⟨rfl, N29⟩
set_option maxRecDepth 65536 in
set_option maxHeartbeats 40000000 in
theorem own_rm_law (l : Launch) (Z : State) (a0 : Array Value) (hw : ∀ d ∈ tables_1, d.before a0 Z = true) (ws : List Jvm.Cond) (q1 : Int64) (q2 : Int64) (q3 : Int64)  (h0 : Heap) (n0 : Nat) (Z0 : n0 ≤ h0.size) :
    MetFree l x (head1 (Jvm.Cond.code x code maxLocals ret :: ws) room_1) (fun a U => a = #[(.long q1), (.long q2), (.long q3)] ∧ Z.Warmed39 U.vm ∧ U.heap = h0) (fun _ _ _ _ _ => True) (fun _ U o U' => ∃ v L, o = .returned v ∧ own_Q_law Z q1 q2 q3  h0 n0 v U'.heap L ∧ FrameEnd U o U' L room_1.cells room_1.slots) := by
  by_cases hp : (own_mx (own_mn (own_pos q1) (own_pos q2)) (own_mn (own_mx (own_pos q1) (own_pos q2)) (own_pos q3))) < (own_mx (own_pos q1) (own_mx (own_pos q2) (own_pos q3)))
  · exact own_rm_law_a l Z a0 hw ws q1 q2 q3 h0 n0 Z0 hp
  · by_cases hq : (own_mn (own_pos q1) (own_mn (own_pos q2) (own_pos q3))) < (own_mx (own_pos q1) (own_mx (own_pos q2) (own_pos q3)))
    · exact own_rm_law_b l Z a0 hw ws q1 q2 q3 h0 n0 Z0 hp hq
    · exact own_rm_law_c l Z a0 hw ws q1 q2 q3 h0 n0 Z0 hp hq
set_option maxRecDepth 65536 in
set_option maxHeartbeats 40000000 in
theorem own_comes {Post : Tables → Env → Array Value → State → Outcome → State → Prop} (hpost : ∀ tb e args s v u, (limb_1_1.after args s (.returned v) u = true ∧ limb_1_2.after args s (.returned v) u = true) → FrameEnd s (.returned v) u (Jvm.fieldLocs frame_1_writes args s ++ Jvm.arrayLocs frame_1_arrays args s ++ Jvm.staticLocs frame_1_statics s) 16 128 → Post tb e args s (.returned v) u) :
    ArmFor flags0 classFile x code maxLocals ret World_1 tables_1 room_1 Calls_1 rest_1 Pre_1 Post := by
  intro l hfl _ _ p e ha hc hk s m args below hf hA hF happ hP
  obtain ⟨hcalls, hrest, hpre⟩ := hP
  obtain ⟨-, -, -, hnamed, -, -, -, hat⟩ := (Spec.applies_iff hf).mp happ
  obtain ⟨hg, hn⟩ := and_e (Cond.before_iff.mp (show (Jvm.Cond.and given_1 narrow_1).before args s = true from hpre))
  obtain ⟨gc, gr⟩ := and_e hg
  obtain ⟨ga0, gr0⟩ := and_e gr
  obtain ⟨ga1, gr1⟩ := and_e gr0
  obtain ⟨w0, w1, w2, rfl⟩ : ∃ w0 w1 w2 : Value, args = #[w0, w1, w2] := by
    have hs : args.size = 3 := by simpa [Cond.value, given_1] using gc
    obtain ⟨L⟩ := args
    match L, hs with
    | [w0, w1, w2], _ => exact ⟨w0, w1, w2, rfl⟩
  have hw := fun d (hd : d ∈ tables_1) => atoms_spec (ws := Jvm.Cond.code x code maxLocals ret :: tables_1) hat d (List.mem_cons_of_mem _ hd)
  obtain ⟨i0, ei0⟩ := isL_v ga0
  obtain rfl : w0 = (.long i0) := Option.some.inj ei0
  obtain ⟨i1, ei1⟩ := isL_v ga1
  obtain rfl : w1 = (.long i1) := Option.some.inj ei1
  obtain ⟨i2, ei2⟩ := isL_v gr1
  obtain rfl : w2 = (.long i2) := Option.some.inj ei2
  obtain ⟨n, o, h1, h2, h3, _, L, rfl, ⟨rfl, N⟩, hq⟩ := own_rm_law l s _ hw tables_1 i0 i1 i2 s.heap s.heap.size (Nat.le_refl _) p e ha hc hk s m _ below hf ((Spec.applies_iff_loose hf).mp happ).1 ⟨rfl, State.Warmed39.refl s, rfl⟩ trivial
  refine ⟨n, _, h1, h2, h3, hpost _ _ _ _ _ _ ⟨Cond.after_iff.mpr rfl, Cond.after_iff.mpr (eq_i res_at (Term.int_eval (1)) rfl)⟩ ⟨hq.1, hq.2.1, (hq.2.2.sift fun y hy => Or.inr (N y hy)).mono (by decide) (by decide)⟩⟩
theorem main_1_1 : Claimed_1_1 := own_comes fun _ _ _ _ _ _ h hF => ⟨h.1, hF⟩
theorem main_1_2 : Claimed_1_2 := own_comes fun _ _ _ _ _ _ h hF => ⟨h.2, hF⟩
end Jvm.Pilot.@@N@@
namespace Jvm.Pilot.@@N@@
open Jvm Jvm.ClassFile Sem Op Lib Jvm.Free Jvm.Stand Jvm.Pilot.@@N@@.Jvm.D
/-! MADE BY PROGRAM (witnessworld.py) out of the Statement's table words and the real class files: 9 classes; the members and pool entries that the words name. The judged class is class 1, her method 2. -/
namespace start1
open Jvm.ClassFile
def u (s : String) : CpInfo := .utf8 (stringToUtf16 s)
/-- a pool by its gaps: so many unusable entries, then the entry; so many at the end -/
def gap : Nat → List CpInfo → List CpInfo
  | 0, r => r
  | n + 1, r => .unusable :: gap n r
def poolList (es : List (Nat × CpInfo)) (last : Nat) : List CpInfo := es.foldr (fun e r => gap e.1 (e.2 :: r)) (gap last [])
def pool (es : List (Nat × CpInfo)) (last : Nat) : Array CpInfo := ⟨poolList es last⟩
def fileOf (pool : Array CpInfo) (this : Nat) (attrs : Array Attribute := #[]) (ms : Array MethodInfo := #[]) (fl : Nat := 33) (sup : Nat := 0) (ifs : Array Nat := #[]) (fds : Array FieldInfo := #[]) : ClassFile where
  minorVersion := 0
  majorVersion := 65
  constantPool := pool
  accessFlags := fl
  thisClass := this
  superClass := sup
  interfaces := ifs
  fields := fds
  methods := ms
  attributes := attrs
def plain (name : String) (sup : Option ClassId) : Class where
  name := name
  kind := .ordinary
  loader := none
  accessFlags := 33
  super := sup
  interfaces := #[]
  cf := none
  fields := #[]
  methods := #[]
  instanceTypes := #[]
  staticTypes := #[]
  resolved := #[]
  callSites := []
  init := .initialized
  statics := none
  mirror := none

def pool0 : Array CpInfo := pool [(5, u "<init>"), (0, u "()V"), (1, .class_ 10), (1, u "java/lang/Object")] 113

def k0c0 : Code := { maxStack := 0, maxLocals := 1, code := object_method_1_code, exceptionTable := #[], attributes := #[] }
def k0m0 : Method := { name := "<init>", desc := "()V", sig := { parameters := [], returnType := none }, accessFlags := 1, code := some k0c0 }
/-- java/lang/Object -/
def k0 : Class := { plain "java/lang/Object" none with
  accessFlags := 33
  interfaces := #[]
  cf := some (fileOf pool0 8 #[] #[{ accessFlags := 1, nameIndex := 5, descriptorIndex := 6, attributes := #[] }] 33 0 #[] #[])
  fields := #[]
  methods := #[k0m0]
  instanceTypes := #[]
  staticTypes := #[]
  resolved := Array.replicate 124 none
  statics := none }

def pool1 : Array CpInfo := pool [(2, .class_ 4), (1, u "java/lang/Object"), (0, u "<init>"), (0, u "()V"), (2, .long 9223372036854775807), (1, .methodref 12 13), (0, .class_ 14), (0, .nameAndType 15 16), (0, u "com/example/beamhall/beamhall/hub/ByteRangeLengthPinLaw"), (0, u "pos"), (0, u "(J)J"), (0, .methodref 18 19), (0, .class_ 20), (0, .nameAndType 21 22), (0, u "java/lang/Math"), (0, u "min"), (0, u "(JJ)J"), (0, .methodref 18 24), (0, .nameAndType 25 22), (0, u "max"), (0, .class_ 27), (0, u "com/example/beamhall/beamhall/hub/ByteRange"), (0, .methodref 26 29), (0, .nameAndType 5 30), (0, u "(JJ)V"), (0, .methodref 26 32), (0, .nameAndType 33 34), (0, u "length"), (0, u "()J"), (2, u "law"), (0, u "(JJJ)Z")] 3

def k1m0 : Method := { name := "<init>", desc := "()V", sig := { parameters := [], returnType := none }, accessFlags := 1, code := none }
def k1c1 : Code := { maxStack := 4, maxLocals := 2, code := method_2_code, exceptionTable := #[], attributes := #[] }
def k1m1 : Method := { name := "pos", desc := "(J)J", sig := { parameters := [.long], returnType := some .long }, accessFlags := 10, code := some k1c1 }
def k1c2 : Code := { maxStack := 10, maxLocals := 21, code := code, exceptionTable := #[], attributes := #[] }
def k1m2 : Method := { name := "law", desc := "(JJJ)Z", sig := { parameters := [.long, .long, .long], returnType := some .boolean }, accessFlags := 9, code := some k1c2 }
/-- com/example/beamhall/beamhall/hub/ByteRangeLengthPinLaw -/
def k1 : Class := { plain "com/example/beamhall/beamhall/hub/ByteRangeLengthPinLaw" (some 0) with
  accessFlags := 49
  interfaces := #[]
  cf := some (fileOf pool1 12 #[] #[{ accessFlags := 1, nameIndex := 5, descriptorIndex := 6, attributes := #[] }, { accessFlags := 10, nameIndex := 15, descriptorIndex := 16, attributes := #[] }, { accessFlags := 9, nameIndex := 37, descriptorIndex := 38, attributes := #[] }] 49 2 #[] #[])
  fields := #[]
  methods := #[k1m0, k1m1, k1m2]
  instanceTypes := #[]
  staticTypes := #[]
  resolved := Array.replicate 42 none
  statics := none }

def pool2 : Array CpInfo := pool [(1, .class_ 2), (0, u "java/lang/Math"), (1, .class_ 6), (1, u "java/lang/Object"), (0, u "<init>"), (0, u "()V"), (89, .class_ 100), (1, u "java/lang/Math$RandomNumberGeneratorHolder"), (20, u "(JJ)J"), (50, u "negativeZeroFloatBits"), (0, u "J"), (2, u "negativeZeroDoubleBits"), (21, u "max"), (2, u "min"), (43, u "$assertionsDisabled"), (0, u "Z"), (91, u "twoToTheDoubleScaleDown"), (0, u "D"), (4, u "twoToTheDoubleScaleUp"), (9, u "E"), (3, u "PI"), (2, u "TAU"), (2, u "DEGREES_TO_RADIANS"), (0, u "RADIANS_TO_DEGREES")] 94

def k2m0 : Method := { name := "<init>", desc := "()V", sig := { parameters := [], returnType := none }, accessFlags := 2, code := none }
def k2c1 : Code := { maxStack := 4, maxLocals := 4, code := jdk_29_method_66_code, exceptionTable := #[], attributes := #[] }
def k2m1 : Method := { name := "max", desc := "(JJ)J", sig := { parameters := [.long, .long], returnType := some .long }, accessFlags := 9, code := some k2c1 }
def k2c2 : Code := { maxStack := 4, maxLocals := 4, code := jdk_29_method_70_code, exceptionTable := #[], attributes := #[] }
def k2m2 : Method := { name := "min", desc := "(JJ)J", sig := { parameters := [.long, .long], returnType := some .long }, accessFlags := 9, code := some k2c2 }
/-- java/lang/Math -/
def k2 : Class := { plain "java/lang/Math" (some 0) with
  accessFlags := 49
  interfaces := #[]
  cf := some (fileOf pool2 1 #[.nestMembers #[98]] #[{ accessFlags := 2, nameIndex := 7, descriptorIndex := 8, attributes := #[] }, { accessFlags := 9, nameIndex := 198, descriptorIndex := 121, attributes := #[] }, { accessFlags := 9, nameIndex := 201, descriptorIndex := 121, attributes := #[] }] 49 4 #[] #[{ accessFlags := 25, nameIndex := 354, descriptorIndex := 339, attributes := #[] }, { accessFlags := 25, nameIndex := 358, descriptorIndex := 339, attributes := #[] }, { accessFlags := 25, nameIndex := 361, descriptorIndex := 339, attributes := #[] }, { accessFlags := 26, nameIndex := 364, descriptorIndex := 339, attributes := #[] }, { accessFlags := 26, nameIndex := 365, descriptorIndex := 339, attributes := #[] }, { accessFlags := 26, nameIndex := 172, descriptorIndex := 173, attributes := #[] }, { accessFlags := 26, nameIndex := 176, descriptorIndex := 173, attributes := #[] }, { accessFlags := 8, nameIndex := 344, descriptorIndex := 339, attributes := #[] }, { accessFlags := 8, nameIndex := 338, descriptorIndex := 339, attributes := #[] }, { accessFlags := 4120, nameIndex := 245, descriptorIndex := 246, attributes := #[] }])
  fields := #[{ name := "E", type := .double, accessFlags := 25, slot := 0, constantValue := 0 }, { name := "PI", type := .double, accessFlags := 25, slot := 1, constantValue := 0 }, { name := "TAU", type := .double, accessFlags := 25, slot := 2, constantValue := 0 }, { name := "DEGREES_TO_RADIANS", type := .double, accessFlags := 26, slot := 3, constantValue := 0 }, { name := "RADIANS_TO_DEGREES", type := .double, accessFlags := 26, slot := 4, constantValue := 0 }, { name := "negativeZeroFloatBits", type := .long, accessFlags := 26, slot := 5, constantValue := 0 }, { name := "negativeZeroDoubleBits", type := .long, accessFlags := 26, slot := 6, constantValue := 0 }, { name := "twoToTheDoubleScaleUp", type := .double, accessFlags := 8, slot := 7, constantValue := 0 }, { name := "twoToTheDoubleScaleDown", type := .double, accessFlags := 8, slot := 8, constantValue := 0 }, { name := "$assertionsDisabled", type := .boolean, accessFlags := 4120, slot := 9, constantValue := 0 }]
  methods := #[k2m0, k2m1, k2m2]
  instanceTypes := #[]
  staticTypes := #[.double, .double, .double, .double, .double, .long, .long, .double, .double, .boolean]
  resolved := Array.replicate 460 none
  statics := none }

def pool3 : Array CpInfo := pool [(1, .methodref 2 3), (0, .class_ 4), (0, .nameAndType 5 6), (0, u "java/lang/Object"), (0, u "<init>"), (0, u "()V"), (0, .class_ 8), (0, u "java/lang/Record")] 13

def k3c0 : Code := { maxStack := 1, maxLocals := 1, code := jdk_30_method_1_code, exceptionTable := #[], attributes := #[] }
def k3m0 : Method := { name := "<init>", desc := "()V", sig := { parameters := [], returnType := none }, accessFlags := 4, code := some k3c0 }
/-- java/lang/Record -/
def k3 : Class := { plain "java/lang/Record" (some 0) with
  accessFlags := 1057
  interfaces := #[]
  cf := some (fileOf pool3 7 #[] #[{ accessFlags := 4, nameIndex := 5, descriptorIndex := 6, attributes := #[] }] 1057 2 #[] #[])
  fields := #[]
  methods := #[k3m0]
  instanceTypes := #[]
  staticTypes := #[]
  resolved := Array.replicate 22 none
  statics := none }

def pool4 : Array CpInfo := pool [(1, .methodref 2 3), (0, .class_ 4), (0, .nameAndType 5 6), (0, u "java/lang/Record"), (0, u "<init>"), (0, u "()V"), (0, .fieldref 8 9), (0, .class_ 10), (0, .nameAndType 11 12), (0, u "com/example/beamhall/beamhall/hub/ByteRange"), (0, u "first"), (0, u "J"), (0, .fieldref 8 14), (0, .nameAndType 15 12), (0, u "last"), (60, u "length"), (37, .class_ 115), (0, u "com/example/beamhall/beamhall/hub/ByteRange$Spec"), (36, u "()J"), (11, u "(JJ)V")] 116

def k4c0 : Code := { maxStack := 3, maxLocals := 5, code := prog_48_method_1_code, exceptionTable := #[], attributes := #[] }
def k4m0 : Method := { name := "<init>", desc := "(JJ)V", sig := { parameters := [.long, .long], returnType := none }, accessFlags := 0, code := some k4c0 }
def k4c1 : Code := { maxStack := 4, maxLocals := 1, code := prog_48_method_2_code, exceptionTable := #[], attributes := #[] }
def k4m1 : Method := { name := "length", desc := "()J", sig := { parameters := [], returnType := some .long }, accessFlags := 0, code := some k4c1 }
/-- com/example/beamhall/beamhall/hub/ByteRange -/
def k4 : Class := { plain "com/example/beamhall/beamhall/hub/ByteRange" (some 3) with
  accessFlags := 48
  interfaces := #[]
  cf := some (fileOf pool4 8 #[.nestMembers #[114]] #[{ accessFlags := 0, nameIndex := 5, descriptorIndex := 164, attributes := #[] }, { accessFlags := 0, nameIndex := 76, descriptorIndex := 152, attributes := #[] }] 48 2 #[] #[{ accessFlags := 18, nameIndex := 11, descriptorIndex := 12, attributes := #[] }, { accessFlags := 18, nameIndex := 15, descriptorIndex := 12, attributes := #[] }])
  fields := #[{ name := "first", type := .long, accessFlags := 18, slot := 0, constantValue := 0 }, { name := "last", type := .long, accessFlags := 18, slot := 1, constantValue := 0 }]
  methods := #[k4m0, k4m1]
  instanceTypes := #[.long, .long]
  staticTypes := #[]
  resolved := Array.replicate 281 none
  statics := none }

def pool5 : Array CpInfo := pool [(1, u "java/lang/Cloneable"), (0, .class_ 1), (0, u "java/lang/Object"), (0, .class_ 3)] 3

/-- java/lang/Cloneable -/
def k5 : Class := { plain "java/lang/Cloneable" (some 0) with
  accessFlags := 1537
  interfaces := #[]
  cf := some (fileOf pool5 2 #[] #[] 1537 4 #[] #[])
  fields := #[]
  methods := #[]
  instanceTypes := #[]
  staticTypes := #[]
  resolved := Array.replicate 8 none
  statics := none }

def pool6 : Array CpInfo := pool [(1, u "java/io/Serializable"), (0, .class_ 1), (0, u "java/lang/Object"), (0, .class_ 3)] 3

/-- java/io/Serializable -/
def k6 : Class := { plain "java/io/Serializable" (some 0) with
  accessFlags := 1537
  interfaces := #[]
  cf := some (fileOf pool6 2 #[] #[] 1537 4 #[] #[])
  fields := #[]
  methods := #[]
  instanceTypes := #[]
  staticTypes := #[]
  resolved := Array.replicate 8 none
  statics := none }

/-- the primitive byte -/
def k7 : Class := { plain "byte" none with kind := .primitive 'B', accessFlags := 0x411 }
/-- [B -/
def k8 : Class := { plain "[B" (some 0) with kind := .array 7 .byte, interfaces := #[5, 6], accessFlags := 1041 }

def heap : Heap := #[]
def classes : Array Class := #[k0, k1, k2, k3, k4, k5, k6, k7, k8]
def interned : List (Array UInt16 × Addr) := []
def slotsUsed : Nat := 0
def theMethod : MethodId := ⟨1, 2⟩
def args0 : Array Value := #[.long 5, .long 7, .long 9]
def aboutOver (below : List Frame) : State where
  vm := { classes := classes, interned := interned.toArray }
  heap := heap
  slotsUsed := slotsUsed
  threads := #[{ frames := .invoking theMethod args0 :: below }]
def below0 : List Frame := [.native { method := ⟨0, 0⟩, args := #[] }]
def about1 : State := aboutOver below0
def p0 : Program := .bare "" "" ""
def e0 : Env := launch0.env 0 0 0
theorem w_frames : about1.frames = Frame.invoking theMethod args0 :: below0 := rfl
set_option maxRecDepth 65536 in
theorem w_args : argsFit about1.vm theMethod args0 = true := by decide +kernel
set_option maxRecDepth 65536 in
theorem w_heap : heapFits about1 = true := by decide +kernel
set_option maxRecDepth 65536 in
theorem w_runnable : about1.curStatus? = some .runnable := by decide +kernel
set_option maxRecDepth 65536 in
theorem w_alone : about1.alone = true := by decide +kernel
set_option maxRecDepth 65536 in
theorem w_named : about1.methodNamed? x = some theMethod := by decide +kernel
set_option maxRecDepth 65536 in
theorem w_hears : about1.hears theMethod below0 = true := by decide +kernel
set_option maxRecDepth 65536 in
theorem w_ripe : about1.ripe theMethod args0 below0 = true := by decide +kernel
theorem w_running : about1.status = .running := rfl
set_option maxRecDepth 65536 in
theorem w_room : about1.hasRoom e0.platform room_1 = true :=
  launch0.hasRoom_least _ room_1 (by decide +kernel) (by decide +kernel) (by decide +kernel) (by decide +kernel) (by decide +kernel) (by decide +kernel)
theorem allAtoms_all (ts : List Jvm.Cond) (a : Array Jvm.Value) (st : Jvm.State) : (allAtoms ts).before a st = ts.all (fun c => c.before a st) := by
  induction ts with
  | nil => rfl
  | cons c t ih =>
    show (Jvm.Cond.and c (allAtoms t)).before a st = _
    rw [Jvm.Cond.before_and, ih, List.all_cons]
def words1 : List Jvm.Cond := Jvm.Cond.code x code maxLocals ret :: tables_1
/-- a 'code' word, met by the world's own term for the bytes: nothing is compared byte by byte -/
theorem code_word {y : MethodName} {bytes : ByteArray} {mx : Nat} {rt : Option FieldType} {a : Array Value} {s : State} {m : MethodId} {meth : Method} {c : Code} (h1 : s.methodNamed? y = some m) (h2 : s.vm.method? m = some meth) (h3 : meth.code = some c) (h4 : c.code = bytes)
    (h5 : (c.maxLocals == mx && c.exceptionTable.isEmpty && decide (c.maxStack ≤ mostOperands) && decide (meth.sig.returnType = rt) && !meth.locks && decide (parseMethodDescriptor y.desc = some meth.sig)) = true) : (Jvm.Cond.code y bytes mx rt).before a s = true := by
  simp only [Bool.and_eq_true, beq_iff_eq, Bool.not_eq_true', decide_eq_true_eq] at h5
  obtain ⟨⟨⟨⟨⟨g1, g2⟩, g3⟩, g4⟩, g5⟩, g6⟩ := h5
  simp [Cond.before, Cond.holds, Cond.value, h1, h2, h3, h4, g1, g2, g3, g4, g5, g6]
def isCode : Jvm.Cond → Bool
  | .code _ _ _ _ => true
  | _ => false
theorem all_split {L : List Jvm.Cond} {P : Jvm.Cond → Bool} (h1 : L.all (fun c => isCode c || P c) = true) (h2 : ∀ c ∈ L.filter isCode, P c = true) : L.all P = true := by
  refine List.all_eq_true.mpr fun c hc => ?_
  have h := List.all_eq_true.mp h1 c hc
  rcases Bool.eq_false_or_eq_true (isCode c) with hi | hi
  · exact h2 c (List.mem_filter.mpr ⟨hc, hi⟩)
  · simpa [hi] using h
set_option maxRecDepth 65536 in
theorem w_c0 : (Jvm.Cond.code x code maxLocals ret).before args0 about1 = true := code_word (m := ⟨1, 2⟩) (meth := k1m2) (c := k1c2) (by decide +kernel) rfl rfl rfl (by decide +kernel)
set_option maxRecDepth 65536 in
theorem w_c1 : (Jvm.Cond.code ({ cls := "com/example/beamhall/beamhall/hub/ByteRangeLengthPinLaw", name := "pos", desc := "(J)J" } : Jvm.MethodName) method_2_code (2 : Nat) (Option.some Jvm.ClassFile.FieldType.long)).before args0 about1 = true := code_word (m := ⟨1, 1⟩) (meth := k1m1) (c := k1c1) (by decide +kernel) rfl rfl rfl (by decide +kernel)
set_option maxRecDepth 65536 in
theorem w_c2 : (Jvm.Cond.code ({ cls := "java/lang/Math", name := "min", desc := "(JJ)J" } : Jvm.MethodName) jdk_29_method_70_code (4 : Nat) (Option.some Jvm.ClassFile.FieldType.long)).before args0 about1 = true := code_word (m := ⟨2, 2⟩) (meth := k2m2) (c := k2c2) (by decide +kernel) rfl rfl rfl (by decide +kernel)
set_option maxRecDepth 65536 in
theorem w_c3 : (Jvm.Cond.code ({ cls := "java/lang/Math", name := "max", desc := "(JJ)J" } : Jvm.MethodName) jdk_29_method_66_code (4 : Nat) (Option.some Jvm.ClassFile.FieldType.long)).before args0 about1 = true := code_word (m := ⟨2, 1⟩) (meth := k2m1) (c := k2c1) (by decide +kernel) rfl rfl rfl (by decide +kernel)
set_option maxRecDepth 65536 in
theorem w_c4 : (Jvm.Cond.code ({ cls := "com/example/beamhall/beamhall/hub/ByteRange", name := "<init>", desc := "(JJ)V" } : Jvm.MethodName) prog_48_method_1_code (5 : Nat) (Option.none : Option Jvm.ClassFile.FieldType)).before args0 about1 = true := code_word (m := ⟨4, 0⟩) (meth := k4m0) (c := k4c0) (by decide +kernel) rfl rfl rfl (by decide +kernel)
set_option maxRecDepth 65536 in
theorem w_c5 : (Jvm.Cond.code ({ cls := "java/lang/Record", name := "<init>", desc := "()V" } : Jvm.MethodName) jdk_30_method_1_code (1 : Nat) (Option.none : Option Jvm.ClassFile.FieldType)).before args0 about1 = true := code_word (m := ⟨3, 0⟩) (meth := k3m0) (c := k3c0) (by decide +kernel) rfl rfl rfl (by decide +kernel)
set_option maxRecDepth 65536 in
theorem w_c6 : (Jvm.Cond.code ({ cls := "java/lang/Object", name := "<init>", desc := "()V" } : Jvm.MethodName) object_method_1_code (1 : Nat) (Option.none : Option Jvm.ClassFile.FieldType)).before args0 about1 = true := code_word (m := ⟨0, 0⟩) (meth := k0m0) (c := k0c0) (by decide +kernel) rfl rfl rfl (by decide +kernel)
set_option maxRecDepth 65536 in
theorem w_c7 : (Jvm.Cond.code ({ cls := "com/example/beamhall/beamhall/hub/ByteRange", name := "length", desc := "()J" } : Jvm.MethodName) prog_48_method_2_code (1 : Nat) (Option.some Jvm.ClassFile.FieldType.long)).before args0 about1 = true := code_word (m := ⟨4, 1⟩) (meth := k4m1) (c := k4c1) (by decide +kernel) rfl rfl rfl (by decide +kernel)
def codes1 : List Jvm.Cond := [Jvm.Cond.code x code maxLocals ret, Jvm.Cond.code ({ cls := "com/example/beamhall/beamhall/hub/ByteRangeLengthPinLaw", name := "pos", desc := "(J)J" } : Jvm.MethodName) method_2_code (2 : Nat) (Option.some Jvm.ClassFile.FieldType.long), Jvm.Cond.code ({ cls := "java/lang/Math", name := "min", desc := "(JJ)J" } : Jvm.MethodName) jdk_29_method_70_code (4 : Nat) (Option.some Jvm.ClassFile.FieldType.long), Jvm.Cond.code ({ cls := "java/lang/Math", name := "max", desc := "(JJ)J" } : Jvm.MethodName) jdk_29_method_66_code (4 : Nat) (Option.some Jvm.ClassFile.FieldType.long), Jvm.Cond.code ({ cls := "com/example/beamhall/beamhall/hub/ByteRange", name := "<init>", desc := "(JJ)V" } : Jvm.MethodName) prog_48_method_1_code (5 : Nat) (Option.none : Option Jvm.ClassFile.FieldType), Jvm.Cond.code ({ cls := "java/lang/Record", name := "<init>", desc := "()V" } : Jvm.MethodName) jdk_30_method_1_code (1 : Nat) (Option.none : Option Jvm.ClassFile.FieldType), Jvm.Cond.code ({ cls := "java/lang/Object", name := "<init>", desc := "()V" } : Jvm.MethodName) object_method_1_code (1 : Nat) (Option.none : Option Jvm.ClassFile.FieldType), Jvm.Cond.code ({ cls := "com/example/beamhall/beamhall/hub/ByteRange", name := "length", desc := "()J" } : Jvm.MethodName) prog_48_method_2_code (1 : Nat) (Option.some Jvm.ClassFile.FieldType.long)]
set_option maxRecDepth 65536 in
theorem codes_eq : words1.filter isCode = codes1 := rfl
theorem w_codes : ∀ c ∈ words1.filter isCode, c.before args0 about1 = true := by
  rw [codes_eq]
  intro c hc
  simp only [codes1, List.mem_cons, List.not_mem_nil, or_false] at hc
  rcases hc with rfl | rfl | rfl | rfl | rfl | rfl | rfl | rfl
  · exact w_c0
  · exact w_c1
  · exact w_c2
  · exact w_c3
  · exact w_c4
  · exact w_c5
  · exact w_c6
  · exact w_c7
set_option maxRecDepth 65536 in
theorem w_t1 : (words1.take 24).all (fun c => isCode c || c.before args0 about1) = true := by decide +kernel
set_option maxRecDepth 65536 in
theorem w_t2 : (words1.drop 24).all (fun c => isCode c || c.before args0 about1) = true := by decide +kernel
theorem w_tables : (allAtoms (Jvm.Cond.code x code maxLocals ret :: tables_1)).before args0 about1 = true := by
  rw [allAtoms_all]
  show words1.all (fun c => c.before args0 about1) = true
  refine all_split ?_ w_codes
  rw [← List.take_append_drop 24 words1, List.all_append, w_t1, w_t2]
  rfl
set_option maxRecDepth 65536 in
theorem w_case : (Jvm.Cond.and given_1 narrow_1).before args0 about1 = true := by decide +kernel
theorem w_applies : (headSpec (Jvm.Cond.code x code maxLocals ret :: tables_1) room_1).applies x e0.platform about1 = true :=
  (Spec.applies_iff w_frames).mpr ⟨w_running, w_runnable, w_alone, w_named, w_hears, w_ripe, w_room, w_tables⟩
theorem atStart : AtStart classFile x code maxLocals ret World_1 tables_1 room_1 Calls_1 rest_1 Pre_1 launch0 p0 e0 about1 theMethod args0 below0 :=
  ⟨lists_1, trivial, launch0.admits_env _ _ _, launch0.least_env, fairChoices_fair.cas, fairChoices_fair.clock, w_frames, w_args, w_heap, w_applies, trivial, trivial, w_case⟩
end start1
theorem witness_1 : WitnessClaimed_1 := ⟨start1.p0, start1.e0, start1.about1, start1.theMethod, start1.args0, start1.below0, start1.atStart⟩
end Jvm.Pilot.@@N@@
