import JvmDerived
import JvmDerived.Pilot.@@N@@Statement
import JvmDerived.Pilot.@@N@@Code
set_option linter.unusedVariables false
set_option linter.unusedSimpArgs false
namespace Jvm.RoadKit
open Sem ClassFile Op Lib Jvm.Stand Jvm.Free Jvm.LawKit
section New
variable {p : Program} {l : Launch} {e : Env} {R : Room} {s : State} {m : MethodId} {args : Array Value} {below : List Frame} {meth : Method} {c : Code} {T : State} {locs : List Loc} {cells slots : Nat}
theorem retI (X : Stand p l e R s m args below meth c T locs cells slots) (hx : p.tables.exec = Jvm.exec) {pc : Nat} {Ls : Array Slot} {z : Int32} {rest : List Value} (hret : meth.sig.returnType = some .int) (hd : decode c.code pc = .ok (.ireturn, 1)) {fs : List Frame}
    (hl : ∀ (f : JFrame) (acts : List Action), f.method = m → f.locked = none → f.entered = [] → (doReturn e (T.setTop f) acts (some (.int z))).1 = T.setFrames fs) : Steps p.tables e below (T.setTop (mkF m pc Ls (.int z :: rest))) (T.setFrames fs) := by
  have hm' : T.vm.method? m = some meth := X.method'
  have hn : narrow .int (.int z) = .int z := rfl
  show Steps p.tables e below (T.setTop { method := m, pc := pc, locals := Ls, stack := _ :: rest, locked := none }) _
  jvm_step X.here [X.here.top, hx, hd, hm', hret, hn]
  first | (intro acts; rw [hl _ acts rfl rfl rfl]) | rw [hl _ _ rfl rfl rfl]
  exact Steps.refl _
end New
end Jvm.RoadKit
namespace Jvm.Pilot.@@N@@
open Jvm Jvm.ClassFile Sem Op Lib Jvm.Free Jvm.Stand Jvm.LawKit Jvm.RoadKit Bundle Jvm.Pilot.@@N@@.Jvm.D

def own_rsv (c : Int32) : Int32 := if c.toInt < 32 ∨ c.toInt = 127 ∨ c.toInt = 33 ∨ c.toInt = 40 ∨ c.toInt = 41 ∨ c.toInt = 44 ∨ c.toInt = 60 ∨ c.toInt = 61 ∨ c.toInt = 62 ∨ c.toInt = 92 ∨ c.toInt = 126 then 1 else 0
def own_can (p : Int32) : Int32 := if p < (0 : Int32) then (0 : Int32) else if (255 : Int32) < p then (0 : Int32) else (1 : Int32)
def own_ix (c : Int32) : Int32 := if (40 : Int32) = c then (0 : Int32) else if (41 : Int32) = c then (1 : Int32) else if (44 : Int32) = c then (2 : Int32) else if (92 : Int32) = c then (3 : Int32) else if (33 : Int32) = c then (4 : Int32) else if (60 : Int32) = c then (5 : Int32) else if (61 : Int32) = c then (6 : Int32) else if (62 : Int32) = c then (7 : Int32) else if (126 : Int32) = c then (8 : Int32) else (-1 : Int32)
def own_ind (p : Int32) : Int32 := if own_can p = (0 : Int32) then (-1 : Int32) else own_ix (p.toInt8.toInt32)
theorem own_rsv_yes {c : Int32} (h : c.toInt < 32 ∨ c.toInt = 127 ∨ c.toInt = 33 ∨ c.toInt = 40 ∨ c.toInt = 41 ∨ c.toInt = 44 ∨ c.toInt = 60 ∨ c.toInt = 61 ∨ c.toInt = 62 ∨ c.toInt = 92 ∨ c.toInt = 126) : own_rsv c = 1 := if_pos h
theorem own_rsv_no {c : Int32} (h : ¬ (c.toInt < 32 ∨ c.toInt = 127 ∨ c.toInt = 33 ∨ c.toInt = 40 ∨ c.toInt = 41 ∨ c.toInt = 44 ∨ c.toInt = 60 ∨ c.toInt = 61 ∨ c.toInt = 62 ∨ c.toInt = 92 ∨ c.toInt = 126)) : own_rsv c = 0 := if_neg h
theorem own_byte {c : Int32} (h0 : 0 ≤ c.toInt) (h1 : c.toInt ≤ 255) : c.toInt8.toInt32.toInt = if c.toInt < 128 then c.toInt else c.toInt - 256 := by
  rw [Int8.toInt_toInt32, Int32.toInt_toInt8, Int.bmod_def]
  split <;> split <;> omega
theorem own_key {c : Int32} (h1 : ¬ c < (32 : Int32)) (h2 : ¬ c = (127 : Int32)) : (own_ind c < (0 : Int32) → own_rsv c = 0) ∧ (¬ own_ind c < (0 : Int32) → own_rsv c = 1) := by
  simp only [Int32.lt_iff_toInt_lt, ← Int32.toInt_inj, Int32.reduceToInt] at h1 h2
  by_cases hb : (255 : Int32) < c
  · have e : own_ind c = -1 := by
      rw [own_ind, own_can]
      by_cases q : c < (0 : Int32)
      · rw [if_pos q, if_pos rfl]
      · rw [if_neg q, if_pos hb, if_pos rfl]
    rw [e]
    simp only [Int32.lt_iff_toInt_lt, Int32.reduceToInt] at hb
    exact ⟨fun _ => own_rsv_no (by omega), fun h => absurd (by decide) h⟩
  · have hb' := hb
    simp only [Int32.lt_iff_toInt_lt, Int32.reduceToInt] at hb
    have e : own_ind c = own_ix (c.toInt8.toInt32) := by
      have q : ¬ c < (0 : Int32) := by rw [Int32.lt_iff_toInt_lt, show (0 : Int32).toInt = 0 from by decide]; omega
      rw [own_ind, own_can, if_neg q, if_neg hb', if_neg (by decide)]
    have hd := own_byte (c := c) (by omega) (by omega)
    rw [e]
    generalize c.toInt8.toInt32 = d at *
    by_cases a1 : (40 : Int32) = d
    · rw [own_ix, if_pos a1]; rw [← Int32.toInt_inj, show (40 : Int32).toInt = 40 from by decide] at a1; exact ⟨fun h => absurd h (by decide), fun _ => own_rsv_yes (by split at hd <;> omega)⟩
    by_cases a2 : (41 : Int32) = d
    · rw [own_ix, if_neg a1, if_pos a2]; rw [← Int32.toInt_inj, show (41 : Int32).toInt = 41 from by decide] at a2; exact ⟨fun h => absurd h (by decide), fun _ => own_rsv_yes (by split at hd <;> omega)⟩
    by_cases a3 : (44 : Int32) = d
    · rw [own_ix, if_neg a1, if_neg a2, if_pos a3]; rw [← Int32.toInt_inj, show (44 : Int32).toInt = 44 from by decide] at a3; exact ⟨fun h => absurd h (by decide), fun _ => own_rsv_yes (by split at hd <;> omega)⟩
    by_cases a4 : (92 : Int32) = d
    · rw [own_ix, if_neg a1, if_neg a2, if_neg a3, if_pos a4]; rw [← Int32.toInt_inj, show (92 : Int32).toInt = 92 from by decide] at a4; exact ⟨fun h => absurd h (by decide), fun _ => own_rsv_yes (by split at hd <;> omega)⟩
    by_cases a5 : (33 : Int32) = d
    · rw [own_ix, if_neg a1, if_neg a2, if_neg a3, if_neg a4, if_pos a5]; rw [← Int32.toInt_inj, show (33 : Int32).toInt = 33 from by decide] at a5; exact ⟨fun h => absurd h (by decide), fun _ => own_rsv_yes (by split at hd <;> omega)⟩
    by_cases a6 : (60 : Int32) = d
    · rw [own_ix, if_neg a1, if_neg a2, if_neg a3, if_neg a4, if_neg a5, if_pos a6]; rw [← Int32.toInt_inj, show (60 : Int32).toInt = 60 from by decide] at a6; exact ⟨fun h => absurd h (by decide), fun _ => own_rsv_yes (by split at hd <;> omega)⟩
    by_cases a7 : (61 : Int32) = d
    · rw [own_ix, if_neg a1, if_neg a2, if_neg a3, if_neg a4, if_neg a5, if_neg a6, if_pos a7]; rw [← Int32.toInt_inj, show (61 : Int32).toInt = 61 from by decide] at a7; exact ⟨fun h => absurd h (by decide), fun _ => own_rsv_yes (by split at hd <;> omega)⟩
    by_cases a8 : (62 : Int32) = d
    · rw [own_ix, if_neg a1, if_neg a2, if_neg a3, if_neg a4, if_neg a5, if_neg a6, if_neg a7, if_pos a8]; rw [← Int32.toInt_inj, show (62 : Int32).toInt = 62 from by decide] at a8; exact ⟨fun h => absurd h (by decide), fun _ => own_rsv_yes (by split at hd <;> omega)⟩
    by_cases a9 : (126 : Int32) = d
    · rw [own_ix, if_neg a1, if_neg a2, if_neg a3, if_neg a4, if_neg a5, if_neg a6, if_neg a7, if_neg a8, if_pos a9]; rw [← Int32.toInt_inj, show (126 : Int32).toInt = 126 from by decide] at a9; exact ⟨fun h => absurd h (by decide), fun _ => own_rsv_yes (by split at hd <;> omega)⟩
    rw [own_ix, if_neg a1, if_neg a2, if_neg a3, if_neg a4, if_neg a5, if_neg a6, if_neg a7, if_neg a8, if_neg a9]
    simp only [← Int32.toInt_inj, Int32.reduceToInt] at a1 a2 a3 a4 a5 a6 a7 a8 a9
    exact ⟨fun _ => own_rsv_no (by split at hd <;> omega), fun h => absurd (by decide) h⟩
/-- the constant's bytes; a String that bears them -/
def own_vs : List Value := [.int 40, .int 41, .int 44, .int 92, .int 33, .int 60, .int 61, .int 62, .int 126]
def own_St (Z : State) (h : Heap) (a b : Addr) (k : ClassId) (w : Int32) : Prop := Exa Z h a "java/lang/String" ∧ Fld Z h a "java/lang/String" "coder" "B" (.int (0 : Int32)) ∧ Fld Z h a "java/lang/String" "value" "[B" (.ref b) ∧ Arv Z h b k .byte (9 : Int32) own_vs (.int 0) ∧ Sta Z h "java/lang/String" "COMPACT_STRINGS" "Z" (.int w)
theorem own_d_jdk_42_method_154_0 : decode jdk_42_method_154_code 0 = .ok (.getstatic 38, 3) := by decide +kernel
theorem own_d_jdk_42_method_154_3 : decode jdk_42_method_154_code 3 = .ok (.ifCond .eq 14, 3) := by decide +kernel
theorem own_d_jdk_42_method_154_6 : decode jdk_42_method_154_code 6 = .ok (.aload_n 0, 1) := by decide +kernel
theorem own_d_jdk_42_method_154_7 : decode jdk_42_method_154_code 7 = .ok (.getfield 15, 3) := by decide +kernel
theorem own_d_jdk_42_method_154_10 : decode jdk_42_method_154_code 10 = .ok (.ifCond .ne 7, 3) := by decide +kernel
theorem own_d_jdk_42_method_154_13 : decode jdk_42_method_154_code 13 = .ok (.iconst 1, 1) := by decide +kernel
theorem own_d_jdk_42_method_154_14 : decode jdk_42_method_154_code 14 = .ok (.goto 4, 3) := by decide +kernel
theorem own_d_jdk_42_method_154_18 : decode jdk_42_method_154_code 18 = .ok (.ireturn, 1) := by decide +kernel
theorem own_pn0 : plainName "java/lang/String" = true := by first | (simp [plainName, overriddenIn]; done) | decide +kernel
theorem own_ef_lat (m : MethodId) (x0 : Addr) : entryFrame m #[(.ref x0)] 1 = mkF m 0 #[.val (.ref x0)] [] := by first | (simp [entryFrame, mkF, argsToLocals, Value.category]; done) | rfl
def own_Q_lat (Z : State) (a1 : Addr) (b : Addr) (k : ClassId) (w : Int32) (h0 : Heap) (n0 : Nat) (v : Option Value) (h : Heap) (L : List Loc) : Prop := v = some (.int (1 : Int32)) ∧ Fr n0 L ∧ h = h0
set_option maxRecDepth 65536 in
set_option maxHeartbeats 40000000 in
theorem own_rm_lat (l : Launch) (Z : State) (a0 : Array Value) (hw : ∀ d ∈ tables_1, d.before a0 Z = true) (ws : List Jvm.Cond) (a1 : Addr) (b : Addr) (k : ClassId) (w : Int32) (h0 : Heap) (n0 : Nat) (Z0 : n0 ≤ h0.size) (O0 : own_St Z h0 a1 b k w) (hw0 : ¬ (w = (0 : Int32))) :
    MetFree l (⟨"java/lang/String", "isLatin1", "()Z"⟩ : MethodName) (head1 (Jvm.Cond.code (⟨"java/lang/String", "isLatin1", "()Z"⟩ : MethodName) jdk_42_method_154_code 1 (some .boolean) :: ws) ({ frames := 0, cells := 0, slots := 0, locals := 0 } : Room)) (fun a U => a = #[(.ref a1)] ∧ Z.Warmed39 U.vm ∧ U.heap = h0) (fun _ _ _ _ _ => True) (fun _ U o U' => ∃ v L, o = .returned v ∧ own_Q_lat Z a1 b k w h0 n0 v U'.heap L ∧ FrameEnd U o U' L ({ frames := 0, cells := 0, slots := 0, locals := 0 } : Room).cells ({ frames := 0, cells := 0, slots := 0, locals := 0 } : Room).slots) := by
  refine MetFree.of_bodySF (plainFor_of_name own_pn0) hisR ?_
  intro p e s m args below meth c s₁ Bd hml0 hP hK
  obtain ⟨rfl, hZ, hh⟩ := hP
  have hx := Bd.exec
  have hby := Bd.bytes
  have hml : c.maxLocals = 1 := hml0
  have hown : s.vm.findClass "java/lang/String" = some m.cls := findClass_of_methodNamed Bd.named
  have hnm := (name_of_methodNamed Bd.named Bd.method).1
  have X0 : Stand p l e ({ frames := 0, cells := 0, slots := 0, locals := 0 } : Room) s m #[(.ref a1)] below meth c s₁ [] 0 0 := Stand.of_body Bd
  have e0 : s₁.heap = h0 := by rw [← hh, Bd.state]; rfl
  have N0 := Fr.nil n0
  have pre0 : ∀ t, Steps p.tables e below (s₁.setTop (mkF m 0 #[.val (.ref a1)] [])) t → Steps p.tables e below (s₁.setTop (entryFrame m #[(.ref a1)] 1)) t := fun t k => castTop (own_ef_lat m a1) k
  obtain ⟨E0, F0c, F0v, V0, S0⟩ := O0
  obtain ⟨T1, X1, e1, st1⟩ := getS2 X0 hx hZ hown (host := "") (Or.inl (hw _ (List.mem_of_getElem? (i := 31) rfl))) Via.refl e0 S0 (g := (mkF m 0 #[.val (.ref a1)] [])) rfl (hb hby own_d_jdk_42_method_154_0)
  obtain ⟨T2, X2, e2, st2⟩ := getF X1 hx hZ hown (host := "") (Or.inl (hw _ (List.mem_of_getElem? (i := 32) rfl))) Via.refl e1 F0c (g := (mkF m 7 #[.val (.ref a1)] [(.ref a1)])) rfl rfl (hb hby own_d_jdk_42_method_154_7)
  obtain ⟨fs, hr, hrun, hended, hW, hsame⟩ := X2.leave (v := some (.int (1 : Int32))) (fun h => by rw [Bd.returns] at h; cases h)
  refine ⟨_, _, pre0 _ ?_, hrun, hended, _, _, rfl, ?_, ⟨_, rfl⟩, hW, hsame.mono (by decide) (by decide)⟩
  · show Steps p.tables e below (s₁.setTop (mkF m 0 #[.val (.ref a1)] [])) _
    refine st1 _ ?_
    show Steps p.tables e below (T1.setTop (mkF m 3 #[.val (.ref a1)] [(.int w)])) _
    refine XS.ifNo X1.here hx rfl (hb hby own_d_jdk_42_method_154_3) rfl ((if0 _ _).trans (feq hw0).1) ?_
    show Steps p.tables e below (T1.setTop (mkF m 6 #[.val (.ref a1)] [])) _
    refine XS.aloadN X1.here hx rfl (hb hby own_d_jdk_42_method_154_6) rfl rfl ?_
    show Steps p.tables e below (T1.setTop (mkF m 7 #[.val (.ref a1)] [(.ref a1)])) _
    refine st2 _ ?_
    show Steps p.tables e below (T2.setTop (mkF m 10 #[.val (.ref a1)] [(.int (0 : Int32))])) _
    refine XS.ifNo X2.here hx rfl (hb hby own_d_jdk_42_method_154_10) rfl ((if0 _ _).trans (teq rfl).2) ?_
    show Steps p.tables e below (T2.setTop (mkF m 13 #[.val (.ref a1)] [])) _
    refine XS.iconst X2.here hx rfl (hb hby own_d_jdk_42_method_154_13) ?_
    show Steps p.tables e below (T2.setTop (mkF m 14 #[.val (.ref a1)] [(.int (1 : Int32))])) _
    refine XS.goto X2.here hx rfl (pc0 := 14) (pc' := 18) rfl (hb hby own_d_jdk_42_method_154_14) (by decide) (by decide) ?_
    show Steps p.tables e below (T2.setTop (mkF m 18 #[.val (.ref a1)] [(.int (1 : Int32))])) _
    exact retN X2 hx (t := .boolean) Bd.returns (by simp) (hb hby own_d_jdk_42_method_154_18) hr
  · show own_Q_lat Z a1 b k w h0 n0 _ T2.heap _
    rw [e2]
    exact ⟨rfl, N0, rfl⟩
theorem own_d_jdk_42_method_152_0 : decode jdk_42_method_152_code 0 = .ok (.getstatic 38, 3) := by decide +kernel
theorem own_d_jdk_42_method_152_3 : decode jdk_42_method_152_code 3 = .ok (.ifCond .eq 10, 3) := by decide +kernel
theorem own_d_jdk_42_method_152_6 : decode jdk_42_method_152_code 6 = .ok (.aload_n 0, 1) := by decide +kernel
theorem own_d_jdk_42_method_152_7 : decode jdk_42_method_152_code 7 = .ok (.getfield 15, 3) := by decide +kernel
theorem own_d_jdk_42_method_152_10 : decode jdk_42_method_152_code 10 = .ok (.goto 4, 3) := by decide +kernel
theorem own_d_jdk_42_method_152_14 : decode jdk_42_method_152_code 14 = .ok (.ireturn, 1) := by decide +kernel
theorem own_ef_cod (m : MethodId) (x0 : Addr) : entryFrame m #[(.ref x0)] 1 = mkF m 0 #[.val (.ref x0)] [] := by first | (simp [entryFrame, mkF, argsToLocals, Value.category]; done) | rfl
def own_Q_cod (Z : State) (a1 : Addr) (b : Addr) (k : ClassId) (w : Int32) (h0 : Heap) (n0 : Nat) (v : Option Value) (h : Heap) (L : List Loc) : Prop := v = some (.int (0 : Int32)) ∧ Fr n0 L ∧ h = h0
set_option maxRecDepth 65536 in
set_option maxHeartbeats 40000000 in
theorem own_rm_cod (l : Launch) (Z : State) (a0 : Array Value) (hw : ∀ d ∈ tables_1, d.before a0 Z = true) (ws : List Jvm.Cond) (a1 : Addr) (b : Addr) (k : ClassId) (w : Int32) (h0 : Heap) (n0 : Nat) (Z0 : n0 ≤ h0.size) (O0 : own_St Z h0 a1 b k w) (hw0 : ¬ (w = (0 : Int32))) :
    MetFree l (⟨"java/lang/String", "coder", "()B"⟩ : MethodName) (head1 (Jvm.Cond.code (⟨"java/lang/String", "coder", "()B"⟩ : MethodName) jdk_42_method_152_code 1 (some .byte) :: ws) ({ frames := 0, cells := 0, slots := 0, locals := 0 } : Room)) (fun a U => a = #[(.ref a1)] ∧ Z.Warmed39 U.vm ∧ U.heap = h0) (fun _ _ _ _ _ => True) (fun _ U o U' => ∃ v L, o = .returned v ∧ own_Q_cod Z a1 b k w h0 n0 v U'.heap L ∧ FrameEnd U o U' L ({ frames := 0, cells := 0, slots := 0, locals := 0 } : Room).cells ({ frames := 0, cells := 0, slots := 0, locals := 0 } : Room).slots) := by
  refine MetFree.of_bodySF (plainFor_of_name own_pn0) hisR ?_
  intro p e s m args below meth c s₁ Bd hml0 hP hK
  obtain ⟨rfl, hZ, hh⟩ := hP
  have hx := Bd.exec
  have hby := Bd.bytes
  have hml : c.maxLocals = 1 := hml0
  have hown : s.vm.findClass "java/lang/String" = some m.cls := findClass_of_methodNamed Bd.named
  have hnm := (name_of_methodNamed Bd.named Bd.method).1
  have X0 : Stand p l e ({ frames := 0, cells := 0, slots := 0, locals := 0 } : Room) s m #[(.ref a1)] below meth c s₁ [] 0 0 := Stand.of_body Bd
  have e0 : s₁.heap = h0 := by rw [← hh, Bd.state]; rfl
  have N0 := Fr.nil n0
  have pre0 : ∀ t, Steps p.tables e below (s₁.setTop (mkF m 0 #[.val (.ref a1)] [])) t → Steps p.tables e below (s₁.setTop (entryFrame m #[(.ref a1)] 1)) t := fun t k => castTop (own_ef_cod m a1) k
  obtain ⟨E0, F0c, F0v, V0, S0⟩ := O0
  obtain ⟨T1, X1, e1, st1⟩ := getS2 X0 hx hZ hown (host := "") (Or.inl (hw _ (List.mem_of_getElem? (i := 31) rfl))) Via.refl e0 S0 (g := (mkF m 0 #[.val (.ref a1)] [])) rfl (hb hby own_d_jdk_42_method_152_0)
  obtain ⟨T2, X2, e2, st2⟩ := getF X1 hx hZ hown (host := "") (Or.inl (hw _ (List.mem_of_getElem? (i := 32) rfl))) Via.refl e1 F0c (g := (mkF m 7 #[.val (.ref a1)] [(.ref a1)])) rfl rfl (hb hby own_d_jdk_42_method_152_7)
  obtain ⟨fs, hr, hrun, hended, hW, hsame⟩ := X2.leave (v := some (.int (0 : Int32))) (fun h => by rw [Bd.returns] at h; cases h)
  refine ⟨_, _, pre0 _ ?_, hrun, hended, _, _, rfl, ?_, ⟨_, rfl⟩, hW, hsame.mono (by decide) (by decide)⟩
  · show Steps p.tables e below (s₁.setTop (mkF m 0 #[.val (.ref a1)] [])) _
    refine st1 _ ?_
    show Steps p.tables e below (T1.setTop (mkF m 3 #[.val (.ref a1)] [(.int w)])) _
    refine XS.ifNo X1.here hx rfl (hb hby own_d_jdk_42_method_152_3) rfl ((if0 _ _).trans (feq hw0).1) ?_
    show Steps p.tables e below (T1.setTop (mkF m 6 #[.val (.ref a1)] [])) _
    refine XS.aloadN X1.here hx rfl (hb hby own_d_jdk_42_method_152_6) rfl rfl ?_
    show Steps p.tables e below (T1.setTop (mkF m 7 #[.val (.ref a1)] [(.ref a1)])) _
    refine st2 _ ?_
    show Steps p.tables e below (T2.setTop (mkF m 10 #[.val (.ref a1)] [(.int (0 : Int32))])) _
    refine XS.goto X2.here hx rfl (pc0 := 10) (pc' := 14) rfl (hb hby own_d_jdk_42_method_152_10) (by decide) (by decide) ?_
    show Steps p.tables e below (T2.setTop (mkF m 14 #[.val (.ref a1)] [(.int (0 : Int32))])) _
    exact retN X2 hx (t := .byte) Bd.returns (by simp) (hb hby own_d_jdk_42_method_152_14) hr
  · show own_Q_cod Z a1 b k w h0 n0 _ T2.heap _
    rw [e2]
    exact ⟨rfl, N0, rfl⟩
theorem own_d_jdk_42_method_54_0 : decode jdk_42_method_54_code 0 = .ok (.aload_n 0, 1) := by decide +kernel
theorem own_d_jdk_42_method_54_1 : decode jdk_42_method_54_code 1 = .ok (.getfield 9, 3) := by decide +kernel
theorem own_d_jdk_42_method_54_4 : decode jdk_42_method_54_code 4 = .ok (.arraylength, 1) := by decide +kernel
theorem own_d_jdk_42_method_54_5 : decode jdk_42_method_54_code 5 = .ok (.aload_n 0, 1) := by decide +kernel
theorem own_d_jdk_42_method_54_6 : decode jdk_42_method_54_code 6 = .ok (.invokevirtual 335, 3) := by decide +kernel
theorem own_pd0 : parseMethodDescriptor "()B" = some ⟨[], some .byte⟩ := by decide +kernel
theorem own_d_jdk_42_method_54_9 : decode jdk_42_method_54_code 9 = .ok (.ishr, 1) := by decide +kernel
theorem own_d_jdk_42_method_54_10 : decode jdk_42_method_54_code 10 = .ok (.ireturn, 1) := by decide +kernel
theorem own_ef_len (m : MethodId) (x0 : Addr) : entryFrame m #[(.ref x0)] 1 = mkF m 0 #[.val (.ref x0)] [] := by first | (simp [entryFrame, mkF, argsToLocals, Value.category]; done) | rfl
def own_Q_len (Z : State) (a1 : Addr) (b : Addr) (k : ClassId) (w : Int32) (h0 : Heap) (n0 : Nat) (v : Option Value) (h : Heap) (L : List Loc) : Prop := v = some (.int (9 : Int32)) ∧ Fr n0 L ∧ h = h0
set_option maxRecDepth 65536 in
set_option maxHeartbeats 40000000 in
theorem own_rm_len (l : Launch) (Z : State) (a0 : Array Value) (hw : ∀ d ∈ tables_1, d.before a0 Z = true) (ws : List Jvm.Cond) (a1 : Addr) (b : Addr) (k : ClassId) (w : Int32) (h0 : Heap) (n0 : Nat) (Z0 : n0 ≤ h0.size) (O0 : own_St Z h0 a1 b k w) (hw0 : ¬ (w = (0 : Int32))) :
    MetFree l (⟨"java/lang/String", "length", "()I"⟩ : MethodName) (head1 (Jvm.Cond.code (⟨"java/lang/String", "length", "()I"⟩ : MethodName) jdk_42_method_54_code 1 (some .int) :: ws) ({ frames := 1, cells := 0, slots := 0, locals := 13 } : Room)) (fun a U => a = #[(.ref a1)] ∧ Z.Warmed39 U.vm ∧ U.heap = h0) (fun _ _ _ _ _ => True) (fun _ U o U' => ∃ v L, o = .returned v ∧ own_Q_len Z a1 b k w h0 n0 v U'.heap L ∧ FrameEnd U o U' L ({ frames := 1, cells := 0, slots := 0, locals := 13 } : Room).cells ({ frames := 1, cells := 0, slots := 0, locals := 13 } : Room).slots) := by
  refine MetFree.of_bodySF (plainFor_of_name own_pn0) hisR ?_
  intro p e s m args below meth c s₁ Bd hml0 hP hK
  obtain ⟨rfl, hZ, hh⟩ := hP
  have hx := Bd.exec
  have hby := Bd.bytes
  have hml : c.maxLocals = 1 := hml0
  have hown : s.vm.findClass "java/lang/String" = some m.cls := findClass_of_methodNamed Bd.named
  have hnm := (name_of_methodNamed Bd.named Bd.method).1
  have X0 : Stand p l e ({ frames := 1, cells := 0, slots := 0, locals := 13 } : Room) s m #[(.ref a1)] below meth c s₁ [] 0 0 := Stand.of_body Bd
  have e0 : s₁.heap = h0 := by rw [← hh, Bd.state]; rfl
  have N0 := Fr.nil n0
  have pre0 : ∀ t, Steps p.tables e below (s₁.setTop (mkF m 0 #[.val (.ref a1)] [])) t → Steps p.tables e below (s₁.setTop (entryFrame m #[(.ref a1)] 1)) t := fun t k => castTop (own_ef_len m a1) k
  obtain ⟨E0, F0c, F0v, V0, S0⟩ := O0
  obtain ⟨T1, X1, e1, st1⟩ := getF X0 hx hZ hown (host := "") (Or.inl (hw _ (List.mem_of_getElem? (i := 33) rfl))) Via.refl e0 F0v (g := (mkF m 1 #[.val (.ref a1)] [(.ref a1)])) rfl rfl (hb hby own_d_jdk_42_method_54_1)
  have Vt2 := V0
  obtain ⟨cl2, Ar2, -, Sz2, Nn2, -, -⟩ := Vt2
  obtain ⟨cq3, kq3, q3a, q3b, q3c⟩ := isOf hZ e1 E0
  obtain ⟨_, _, ⟨T3, L3, k3, n3⟩, -, X3, ⟨Lc3, hQ3, l3, y3, z3⟩, st3⟩ := X1.virtualBack hx (y := (⟨"java/lang/String", "coder", "()B"⟩ : MethodName)) (z := (⟨"java/lang/String", "coder", "()B"⟩ : MethodName)) hown (mvT hZ (hw _ (List.mem_of_getElem? (i := 39) rfl))) (mvT hZ (hw _ (List.mem_of_getElem? (i := 40) rfl))) (notFace_of_selects (args := #[]) (mvT hZ (hw _ (List.mem_of_getElem? (i := 42) rfl)))) (mvT hZ (hw _ (List.mem_of_getElem? (i := 42) rfl))) (mvT hZ (hw _ (List.mem_of_getElem? (i := 41) rfl))) (by decide) (backOf (W := 1) (own_rm_cod l Z a0 hw [] a1 b k w h0 n0 Z0 ⟨E0, F0c, F0v, V0, S0⟩ hw0) hZ (hw _ (List.mem_of_getElem? (i := 43) rfl)) (hw _ (List.mem_of_getElem? (i := 9) rfl)) (by decide) (by decide)) q3a q3c (g := (mkF m 6 #[.val (.ref a1)] [(.ref a1), (.int (9 : Int32))])) rfl (by rw [hml]; rfl) (Steps.refl _) (argsL := []) (rest := [(.int (9 : Int32))]) (lenOf own_pd0 rfl) rfl (by show 2 * 0 + _ ≤ _; exact Nat.le_of_eq rfl) (hb hby own_d_jdk_42_method_54_6) (fun _ _ => ⟨rfl, e1, (by decide : 0 + 0 ≤ _), (by decide : 0 + 0 ≤ _)⟩)
  dsimp only [Pt.U, Pt.locs, Pt.cells, Pt.slots] at X3 l3 y3 z3 st3 hQ3
  subst l3 y3 z3
  obtain ⟨rfl, N3q, e3q⟩ := hQ3
  have N3 := Fr.app N0 N3q
  have E3_a1 : Exa Z T3.heap a1 "java/lang/String" := by rw [e3q]; exact E0
  have Fs3_a1_coder : Fld Z T3.heap a1 "java/lang/String" "coder" "B" (.int (0 : Int32)) := by rw [e3q]; exact F0c
  have Fs3_a1_value : Fld Z T3.heap a1 "java/lang/String" "value" "[B" (.ref b) := by rw [e3q]; exact F0v
  have Vs3_b : Arv Z T3.heap b k .byte (9 : Int32) own_vs (.int 0) := by rw [e3q]; exact V0
  have Ss3_COMPACT_STRINGS : Sta Z T3.heap "java/lang/String" "COMPACT_STRINGS" "Z" (.int w) := by rw [e3q]; exact S0
  have Z3 : n0 ≤ T3.heap.size := by rw [e3q]; exact Z0
  obtain ⟨fs, hr, hrun, hended, hW, hsame⟩ := X3.leave (v := some (.int ((9 : Int32) >>> ((0 : Int32) &&& 31)))) (fun h => by rw [Bd.returns] at h; cases h)
  refine ⟨_, _, pre0 _ ?_, hrun, hended, _, _, rfl, ?_, ⟨_, rfl⟩, hW, hsame.mono (by decide) (by decide)⟩
  · show Steps p.tables e below (s₁.setTop (mkF m 0 #[.val (.ref a1)] [])) _
    refine XS.aloadN X0.here hx rfl (hb hby own_d_jdk_42_method_54_0) rfl rfl ?_
    show Steps p.tables e below (s₁.setTop (mkF m 1 #[.val (.ref a1)] [(.ref a1)])) _
    refine st1 _ ?_
    show Steps p.tables e below (T1.setTop (mkF m 4 #[.val (.ref a1)] [(.ref b)])) _
    refine X1.arraylength hx (by rw [e1]; exact Ar2.1) (State.isArrayOf_alike hZ.alike Ar2.2.1) (g := (mkF m 4 #[.val (.ref a1)] [(.ref b)])) rfl rfl (hb hby own_d_jdk_42_method_54_4) _ ?_
    rw [len_of Sz2 Nn2]
    show Steps p.tables e below (T1.setTop (mkF m 5 #[.val (.ref a1)] [(.int (9 : Int32))])) _
    refine XS.aloadN X1.here hx rfl (hb hby own_d_jdk_42_method_54_5) rfl rfl ?_
    show Steps p.tables e below (T1.setTop (mkF m 6 #[.val (.ref a1)] [(.ref a1), (.int (9 : Int32))])) _
    refine st3.trans ?_
    show Steps p.tables e below (T3.setTop (mkF m 9 #[.val (.ref a1)] [(.int (0 : Int32)), (.int (9 : Int32))])) _
    refine XS.ishr X3.here hx rfl (hb hby own_d_jdk_42_method_54_9) rfl ?_
    show Steps p.tables e below (T3.setTop (mkF m 10 #[.val (.ref a1)] [(.int ((9 : Int32) >>> ((0 : Int32) &&& 31)))])) _
    exact retI X3 hx Bd.returns (hb hby own_d_jdk_42_method_54_10) hr
  · show own_Q_len Z a1 b k w h0 n0 _ T3.heap _
    exact ⟨(by decide), N3, (by first | rfl | rw [e3q])⟩
theorem own_d_jdk_29_method_65_0 : decode jdk_29_method_65_code 0 = .ok (.iload_n 0, 1) := by decide +kernel
theorem own_d_jdk_29_method_65_1 : decode jdk_29_method_65_code 1 = .ok (.iload_n 1, 1) := by decide +kernel
theorem own_d_jdk_29_method_65_2 : decode jdk_29_method_65_code 2 = .ok (.if_icmp .lt 7, 3) := by decide +kernel
theorem own_d_jdk_29_method_65_5 : decode jdk_29_method_65_code 5 = .ok (.iload_n 0, 1) := by decide +kernel
theorem own_d_jdk_29_method_65_6 : decode jdk_29_method_65_code 6 = .ok (.goto 4, 3) := by decide +kernel
theorem own_d_jdk_29_method_65_10 : decode jdk_29_method_65_code 10 = .ok (.ireturn, 1) := by decide +kernel
theorem own_ef_max (m : MethodId) (x0 : Int32) (x1 : Int32) : entryFrame m #[(.int x0), (.int x1)] 2 = mkF m 0 #[.val (.int x0), .val (.int x1)] [] := by first | (simp [entryFrame, mkF, argsToLocals, Value.category]; done) | rfl
def own_Q_max (Z : State) (p1 : Int32) (p2 : Int32)  (h0 : Heap) (n0 : Nat) (v : Option Value) (h : Heap) (L : List Loc) : Prop := v = some (.int p1) ∧ Fr n0 L ∧ h = h0
set_option maxRecDepth 65536 in
set_option maxHeartbeats 40000000 in
theorem own_rm_max (l : Launch) (Z : State) (a0 : Array Value) (hw : ∀ d ∈ tables_1, d.before a0 Z = true) (ws : List Jvm.Cond) (p1 : Int32) (p2 : Int32)  (h0 : Heap) (n0 : Nat) (Z0 : n0 ≤ h0.size) (hp : ¬ (p1 < p2)) :
    MetFree l (⟨"java/lang/Math", "max", "(II)I"⟩ : MethodName) (head1 (Jvm.Cond.code (⟨"java/lang/Math", "max", "(II)I"⟩ : MethodName) jdk_29_method_65_code 2 (some .int) :: ws) ({ frames := 0, cells := 0, slots := 0, locals := 0 } : Room)) (fun a U => a = #[(.int p1), (.int p2)] ∧ Z.Warmed39 U.vm ∧ U.heap = h0) (fun _ _ _ _ _ => True) (fun _ U o U' => ∃ v L, o = .returned v ∧ own_Q_max Z p1 p2  h0 n0 v U'.heap L ∧ FrameEnd U o U' L ({ frames := 0, cells := 0, slots := 0, locals := 0 } : Room).cells ({ frames := 0, cells := 0, slots := 0, locals := 0 } : Room).slots) := by
  refine MetFree.of_bodySF (Jvm.Free.JP.mathPlain rfl (by decide +kernel)) hisR ?_
  intro p e s m args below meth c s₁ Bd hml0 hP hK
  obtain ⟨rfl, hZ, hh⟩ := hP
  have hx := Bd.exec
  have hby := Bd.bytes
  have hml : c.maxLocals = 2 := hml0
  have hown : s.vm.findClass "java/lang/Math" = some m.cls := findClass_of_methodNamed Bd.named
  have hnm := (name_of_methodNamed Bd.named Bd.method).1
  have X0 : Stand p l e ({ frames := 0, cells := 0, slots := 0, locals := 0 } : Room) s m #[(.int p1), (.int p2)] below meth c s₁ [] 0 0 := Stand.of_body Bd
  have e0 : s₁.heap = h0 := by rw [← hh, Bd.state]; rfl
  have N0 := Fr.nil n0
  have pre0 : ∀ t, Steps p.tables e below (s₁.setTop (mkF m 0 #[.val (.int p1), .val (.int p2)] [])) t → Steps p.tables e below (s₁.setTop (entryFrame m #[(.int p1), (.int p2)] 2)) t := fun t k => castTop (own_ef_max m p1 p2) k
  obtain ⟨fs, hr, hrun, hended, hW, hsame⟩ := X0.leave (v := some (.int p1)) (fun h => by rw [Bd.returns] at h; cases h)
  refine ⟨_, _, pre0 _ ?_, hrun, hended, _, _, rfl, ?_, ⟨_, rfl⟩, hW, hsame.mono (by decide) (by decide)⟩
  · show Steps p.tables e below (s₁.setTop (mkF m 0 #[.val (.int p1), .val (.int p2)] [])) _
    refine XS.iloadN X0.here hx rfl (hb hby own_d_jdk_29_method_65_0) rfl ?_
    show Steps p.tables e below (s₁.setTop (mkF m 1 #[.val (.int p1), .val (.int p2)] [(.int p1)])) _
    refine XS.iloadN X0.here hx rfl (hb hby own_d_jdk_29_method_65_1) rfl ?_
    show Steps p.tables e below (s₁.setTop (mkF m 2 #[.val (.int p1), .val (.int p2)] [(.int p2), (.int p1)])) _
    refine XS.icmpNo X0.here hx rfl (hb hby own_d_jdk_29_method_65_2) rfl (flt hp).1 ?_
    show Steps p.tables e below (s₁.setTop (mkF m 5 #[.val (.int p1), .val (.int p2)] [])) _
    refine XS.iloadN X0.here hx rfl (hb hby own_d_jdk_29_method_65_5) rfl ?_
    show Steps p.tables e below (s₁.setTop (mkF m 6 #[.val (.int p1), .val (.int p2)] [(.int p1)])) _
    refine XS.goto X0.here hx rfl (pc0 := 6) (pc' := 10) rfl (hb hby own_d_jdk_29_method_65_6) (by decide) (by decide) ?_
    show Steps p.tables e below (s₁.setTop (mkF m 10 #[.val (.int p1), .val (.int p2)] [(.int p1)])) _
    exact retI X0 hx Bd.returns (hb hby own_d_jdk_29_method_65_10) hr
  · show own_Q_max Z p1 p2  h0 n0 _ s₁.heap _
    rw [e0]
    exact ⟨rfl, N0, rfl⟩
theorem own_d_jdk_29_method_69_0 : decode jdk_29_method_69_code 0 = .ok (.iload_n 0, 1) := by decide +kernel
theorem own_d_jdk_29_method_69_1 : decode jdk_29_method_69_code 1 = .ok (.iload_n 1, 1) := by decide +kernel
theorem own_d_jdk_29_method_69_2 : decode jdk_29_method_69_code 2 = .ok (.if_icmp .gt 7, 3) := by decide +kernel
theorem own_d_jdk_29_method_69_5 : decode jdk_29_method_69_code 5 = .ok (.iload_n 0, 1) := by decide +kernel
theorem own_d_jdk_29_method_69_6 : decode jdk_29_method_69_code 6 = .ok (.goto 4, 3) := by decide +kernel
theorem own_d_jdk_29_method_69_10 : decode jdk_29_method_69_code 10 = .ok (.ireturn, 1) := by decide +kernel
theorem own_ef_min (m : MethodId) (x0 : Int32) (x1 : Int32) : entryFrame m #[(.int x0), (.int x1)] 2 = mkF m 0 #[.val (.int x0), .val (.int x1)] [] := by first | (simp [entryFrame, mkF, argsToLocals, Value.category]; done) | rfl
def own_Q_min (Z : State) (p1 : Int32) (p2 : Int32)  (h0 : Heap) (n0 : Nat) (v : Option Value) (h : Heap) (L : List Loc) : Prop := v = some (.int p1) ∧ Fr n0 L ∧ h = h0
set_option maxRecDepth 65536 in
set_option maxHeartbeats 40000000 in
theorem own_rm_min (l : Launch) (Z : State) (a0 : Array Value) (hw : ∀ d ∈ tables_1, d.before a0 Z = true) (ws : List Jvm.Cond) (p1 : Int32) (p2 : Int32)  (h0 : Heap) (n0 : Nat) (Z0 : n0 ≤ h0.size) (hp : ¬ (p2 < p1)) :
    MetFree l (⟨"java/lang/Math", "min", "(II)I"⟩ : MethodName) (head1 (Jvm.Cond.code (⟨"java/lang/Math", "min", "(II)I"⟩ : MethodName) jdk_29_method_69_code 2 (some .int) :: ws) ({ frames := 0, cells := 0, slots := 0, locals := 0 } : Room)) (fun a U => a = #[(.int p1), (.int p2)] ∧ Z.Warmed39 U.vm ∧ U.heap = h0) (fun _ _ _ _ _ => True) (fun _ U o U' => ∃ v L, o = .returned v ∧ own_Q_min Z p1 p2  h0 n0 v U'.heap L ∧ FrameEnd U o U' L ({ frames := 0, cells := 0, slots := 0, locals := 0 } : Room).cells ({ frames := 0, cells := 0, slots := 0, locals := 0 } : Room).slots) := by
  refine MetFree.of_bodySF (Jvm.Free.JP.mathPlain rfl (by decide +kernel)) hisR ?_
  intro p e s m args below meth c s₁ Bd hml0 hP hK
  obtain ⟨rfl, hZ, hh⟩ := hP
  have hx := Bd.exec
  have hby := Bd.bytes
  have hml : c.maxLocals = 2 := hml0
  have hown : s.vm.findClass "java/lang/Math" = some m.cls := findClass_of_methodNamed Bd.named
  have hnm := (name_of_methodNamed Bd.named Bd.method).1
  have X0 : Stand p l e ({ frames := 0, cells := 0, slots := 0, locals := 0 } : Room) s m #[(.int p1), (.int p2)] below meth c s₁ [] 0 0 := Stand.of_body Bd
  have e0 : s₁.heap = h0 := by rw [← hh, Bd.state]; rfl
  have N0 := Fr.nil n0
  have pre0 : ∀ t, Steps p.tables e below (s₁.setTop (mkF m 0 #[.val (.int p1), .val (.int p2)] [])) t → Steps p.tables e below (s₁.setTop (entryFrame m #[(.int p1), (.int p2)] 2)) t := fun t k => castTop (own_ef_min m p1 p2) k
  obtain ⟨fs, hr, hrun, hended, hW, hsame⟩ := X0.leave (v := some (.int p1)) (fun h => by rw [Bd.returns] at h; cases h)
  refine ⟨_, _, pre0 _ ?_, hrun, hended, _, _, rfl, ?_, ⟨_, rfl⟩, hW, hsame.mono (by decide) (by decide)⟩
  · show Steps p.tables e below (s₁.setTop (mkF m 0 #[.val (.int p1), .val (.int p2)] [])) _
    refine XS.iloadN X0.here hx rfl (hb hby own_d_jdk_29_method_69_0) rfl ?_
    show Steps p.tables e below (s₁.setTop (mkF m 1 #[.val (.int p1), .val (.int p2)] [(.int p1)])) _
    refine XS.iloadN X0.here hx rfl (hb hby own_d_jdk_29_method_69_1) rfl ?_
    show Steps p.tables e below (s₁.setTop (mkF m 2 #[.val (.int p1), .val (.int p2)] [(.int p2), (.int p1)])) _
    refine XS.icmpNo X0.here hx rfl (hb hby own_d_jdk_29_method_69_2) rfl (flt hp).2.2.1 ?_
    show Steps p.tables e below (s₁.setTop (mkF m 5 #[.val (.int p1), .val (.int p2)] [])) _
    refine XS.iloadN X0.here hx rfl (hb hby own_d_jdk_29_method_69_5) rfl ?_
    show Steps p.tables e below (s₁.setTop (mkF m 6 #[.val (.int p1), .val (.int p2)] [(.int p1)])) _
    refine XS.goto X0.here hx rfl (pc0 := 6) (pc' := 10) rfl (hb hby own_d_jdk_29_method_69_6) (by decide) (by decide) ?_
    show Steps p.tables e below (s₁.setTop (mkF m 10 #[.val (.int p1), .val (.int p2)] [(.int p1)])) _
    exact retI X0 hx Bd.returns (hb hby own_d_jdk_29_method_69_10) hr
  · show own_Q_min Z p1 p2  h0 n0 _ s₁.heap _
    rw [e0]
    exact ⟨rfl, N0, rfl⟩
theorem own_d_jdk_43_method_4_0 : decode jdk_43_method_4_code 0 = .ok (.iload_n 0, 1) := by decide +kernel
theorem own_d_jdk_43_method_4_1 : decode jdk_43_method_4_code 1 = .ok (.ifCond .lt 14, 3) := by decide +kernel
theorem own_d_jdk_43_method_4_15 : decode jdk_43_method_4_code 15 = .ok (.iconst 0, 1) := by decide +kernel
theorem own_d_jdk_43_method_4_16 : decode jdk_43_method_4_code 16 = .ok (.ireturn, 1) := by decide +kernel
theorem own_d_jdk_43_method_4_4 : decode jdk_43_method_4_code 4 = .ok (.iload_n 0, 1) := by decide +kernel
theorem own_d_jdk_43_method_4_5 : decode jdk_43_method_4_code 5 = .ok (.sipush 255, 3) := by decide +kernel
theorem own_d_jdk_43_method_4_8 : decode jdk_43_method_4_code 8 = .ok (.if_icmp .gt 7, 3) := by decide +kernel
theorem own_d_jdk_43_method_4_11 : decode jdk_43_method_4_code 11 = .ok (.iconst 1, 1) := by decide +kernel
theorem own_d_jdk_43_method_4_12 : decode jdk_43_method_4_code 12 = .ok (.goto 4, 3) := by decide +kernel
theorem own_pn1 : plainName "java/lang/StringLatin1" = true := by first | (simp [plainName, overriddenIn]; done) | decide +kernel
theorem own_ef_can (m : MethodId) (x0 : Int32) : entryFrame m #[(.int x0)] 1 = mkF m 0 #[.val (.int x0)] [] := by first | (simp [entryFrame, mkF, argsToLocals, Value.category]; done) | rfl
def own_Q_can (Z : State) (p1 : Int32)  (h0 : Heap) (n0 : Nat) (v : Option Value) (h : Heap) (L : List Loc) : Prop := v = some (.int (own_can p1)) ∧ Fr n0 L ∧ h = h0
set_option maxRecDepth 65536 in
set_option maxHeartbeats 40000000 in
theorem own_rm_can (l : Launch) (Z : State) (a0 : Array Value) (hw : ∀ d ∈ tables_1, d.before a0 Z = true) (ws : List Jvm.Cond) (p1 : Int32)  (h0 : Heap) (n0 : Nat) (Z0 : n0 ≤ h0.size)  :
    MetFree l (⟨"java/lang/StringLatin1", "canEncode", "(I)Z"⟩ : MethodName) (head1 (Jvm.Cond.code (⟨"java/lang/StringLatin1", "canEncode", "(I)Z"⟩ : MethodName) jdk_43_method_4_code 1 (some .boolean) :: ws) ({ frames := 0, cells := 0, slots := 0, locals := 0 } : Room)) (fun a U => a = #[(.int p1)] ∧ Z.Warmed39 U.vm ∧ U.heap = h0) (fun _ _ _ _ _ => True) (fun _ U o U' => ∃ v L, o = .returned v ∧ own_Q_can Z p1  h0 n0 v U'.heap L ∧ FrameEnd U o U' L ({ frames := 0, cells := 0, slots := 0, locals := 0 } : Room).cells ({ frames := 0, cells := 0, slots := 0, locals := 0 } : Room).slots) := by
  refine MetFree.of_bodySF (plainFor_of_name own_pn1) hisR ?_
  intro p e s m args below meth c s₁ Bd hml0 hP hK
  obtain ⟨rfl, hZ, hh⟩ := hP
  have hx := Bd.exec
  have hby := Bd.bytes
  have hml : c.maxLocals = 1 := hml0
  have hown : s.vm.findClass "java/lang/StringLatin1" = some m.cls := findClass_of_methodNamed Bd.named
  have hnm := (name_of_methodNamed Bd.named Bd.method).1
  have X0 : Stand p l e ({ frames := 0, cells := 0, slots := 0, locals := 0 } : Room) s m #[(.int p1)] below meth c s₁ [] 0 0 := Stand.of_body Bd
  have e0 : s₁.heap = h0 := by rw [← hh, Bd.state]; rfl
  have N0 := Fr.nil n0
  have pre0 : ∀ t, Steps p.tables e below (s₁.setTop (mkF m 0 #[.val (.int p1)] [])) t → Steps p.tables e below (s₁.setTop (entryFrame m #[(.int p1)] 1)) t := fun t k => castTop (own_ef_can m p1) k
  obtain ⟨r0, hr0⟩ : ∃ z : Int32, z = own_can p1 := ⟨_, rfl⟩
  obtain ⟨fs, hr, hrun, hended, hW, hsame⟩ := X0.leave (v := some (.int r0)) (fun h => by rw [Bd.returns] at h; cases h)
  refine ⟨_, _, pre0 _ ?_, hrun, hended, _, _, rfl, ?_, ⟨_, rfl⟩, hW, hsame.mono (by decide) (by decide)⟩
  · show Steps p.tables e below (s₁.setTop (mkF m 0 #[.val (.int p1)] [])) _
    refine XS.iloadN X0.here hx rfl (hb hby own_d_jdk_43_method_4_0) rfl ?_
    by_cases hc1 : p1 < (0 : Int32)
    · show Steps p.tables e below (s₁.setTop (mkF m 1 #[.val (.int p1)] [(.int p1)])) _
      refine XS.ifYes X0.here hx rfl (pc0 := 1) (pc' := 15) rfl (hb hby own_d_jdk_43_method_4_1) rfl ((if0 _ _).trans (tlt hc1).1) (by decide) (by decide) ?_
      show Steps p.tables e below (s₁.setTop (mkF m 15 #[.val (.int p1)] [])) _
      refine XS.iconst X0.here hx rfl (hb hby own_d_jdk_43_method_4_15) ?_
      have hv : r0 = (0 : Int32) := by rw [hr0, own_can, if_pos hc1]
      rw [hv] at hr
      show Steps p.tables e below (s₁.setTop (mkF m 16 #[.val (.int p1)] [(.int (0 : Int32))])) _
      exact retN X0 hx (t := .boolean) Bd.returns (by simp) (hb hby own_d_jdk_43_method_4_16) hr
    · show Steps p.tables e below (s₁.setTop (mkF m 1 #[.val (.int p1)] [(.int p1)])) _
      refine XS.ifNo X0.here hx rfl (hb hby own_d_jdk_43_method_4_1) rfl ((if0 _ _).trans (flt hc1).1) ?_
      show Steps p.tables e below (s₁.setTop (mkF m 4 #[.val (.int p1)] [])) _
      refine XS.iloadN X0.here hx rfl (hb hby own_d_jdk_43_method_4_4) rfl ?_
      show Steps p.tables e below (s₁.setTop (mkF m 5 #[.val (.int p1)] [(.int p1)])) _
      refine XS.sipush X0.here hx rfl (hb hby own_d_jdk_43_method_4_5) ?_
      by_cases hc8 : (255 : Int32) < p1
      · show Steps p.tables e below (s₁.setTop (mkF m 8 #[.val (.int p1)] [(.int (255 : Int32)), (.int p1)])) _
        refine XS.icmpYes X0.here hx rfl (pc0 := 8) (pc' := 15) rfl (hb hby own_d_jdk_43_method_4_8) rfl (tlt hc8).2.2.1 (by decide) (by decide) ?_
        show Steps p.tables e below (s₁.setTop (mkF m 15 #[.val (.int p1)] [])) _
        refine XS.iconst X0.here hx rfl (hb hby own_d_jdk_43_method_4_15) ?_
        have hv : r0 = (0 : Int32) := by rw [hr0, own_can, if_neg hc1, if_pos hc8]
        rw [hv] at hr
        show Steps p.tables e below (s₁.setTop (mkF m 16 #[.val (.int p1)] [(.int (0 : Int32))])) _
        exact retN X0 hx (t := .boolean) Bd.returns (by simp) (hb hby own_d_jdk_43_method_4_16) hr
      · show Steps p.tables e below (s₁.setTop (mkF m 8 #[.val (.int p1)] [(.int (255 : Int32)), (.int p1)])) _
        refine XS.icmpNo X0.here hx rfl (hb hby own_d_jdk_43_method_4_8) rfl (flt hc8).2.2.1 ?_
        show Steps p.tables e below (s₁.setTop (mkF m 11 #[.val (.int p1)] [])) _
        refine XS.iconst X0.here hx rfl (hb hby own_d_jdk_43_method_4_11) ?_
        show Steps p.tables e below (s₁.setTop (mkF m 12 #[.val (.int p1)] [(.int (1 : Int32))])) _
        refine XS.goto X0.here hx rfl (pc0 := 12) (pc' := 16) rfl (hb hby own_d_jdk_43_method_4_12) (by decide) (by decide) ?_
        have hv : r0 = (1 : Int32) := by rw [hr0, own_can, if_neg hc1, if_neg hc8]
        rw [hv] at hr
        show Steps p.tables e below (s₁.setTop (mkF m 16 #[.val (.int p1)] [(.int (1 : Int32))])) _
        exact retN X0 hx (t := .boolean) Bd.returns (by simp) (hb hby own_d_jdk_43_method_4_16) hr
  · show own_Q_can Z p1  h0 n0 _ s₁.heap _
    rw [e0]
    exact ⟨(by rw [hr0]), N0, rfl⟩
theorem own_d_jdk_43_method_23_0 : decode jdk_43_method_23_code 0 = .ok (.iload_n 1, 1) := by decide +kernel
theorem own_d_jdk_43_method_23_1 : decode jdk_43_method_23_code 1 = .ok (.i2b, 1) := by decide +kernel
theorem own_d_jdk_43_method_23_2 : decode jdk_43_method_23_code 2 = .ok (.istore 4, 2) := by decide +kernel
theorem own_d_jdk_43_method_23_4 : decode jdk_43_method_23_code 4 = .ok (.iload_n 2, 1) := by decide +kernel
theorem own_d_jdk_43_method_23_5 : decode jdk_43_method_23_code 5 = .ok (.istore 5, 2) := by decide +kernel
theorem own_d_jdk_43_method_23_7 : decode jdk_43_method_23_code 7 = .ok (.iload 5, 2) := by decide +kernel
theorem own_d_jdk_43_method_23_9 : decode jdk_43_method_23_code 9 = .ok (.iload_n 3, 1) := by decide +kernel
theorem own_d_jdk_43_method_23_10 : decode jdk_43_method_23_code 10 = .ok (.if_icmp .ge 21, 3) := by decide +kernel
theorem own_d_jdk_43_method_23_13 : decode jdk_43_method_23_code 13 = .ok (.aload_n 0, 1) := by decide +kernel
theorem own_d_jdk_43_method_23_14 : decode jdk_43_method_23_code 14 = .ok (.iload 5, 2) := by decide +kernel
theorem own_d_jdk_43_method_23_16 : decode jdk_43_method_23_code 16 = .ok (.baload, 1) := by decide +kernel
theorem own_d_jdk_43_method_23_17 : decode jdk_43_method_23_code 17 = .ok (.iload 4, 2) := by decide +kernel
theorem own_d_jdk_43_method_23_19 : decode jdk_43_method_23_code 19 = .ok (.if_icmp .ne 6, 3) := by decide +kernel
theorem own_d_jdk_43_method_23_22 : decode jdk_43_method_23_code 22 = .ok (.iload 5, 2) := by decide +kernel
theorem own_d_jdk_43_method_23_24 : decode jdk_43_method_23_code 24 = .ok (.ireturn, 1) := by decide +kernel
theorem own_d_jdk_43_method_23_25 : decode jdk_43_method_23_code 25 = .ok (.iinc 5 1, 3) := by decide +kernel
theorem own_d_jdk_43_method_23_28 : decode jdk_43_method_23_code 28 = .ok (.goto (-21), 3) := by decide +kernel
theorem own_d_jdk_43_method_23_31 : decode jdk_43_method_23_code 31 = .ok (.iconst (-1), 1) := by decide +kernel
theorem own_d_jdk_43_method_23_32 : decode jdk_43_method_23_code 32 = .ok (.ireturn, 1) := by decide +kernel
theorem own_ef_chr (m : MethodId) (x0 : Addr) (x1 : Int32) : entryFrame m #[(.ref x0), (.int x1), (.int (0 : Int32)), (.int (9 : Int32))] 6 = mkF m 0 #[.val (.ref x0), .val (.int x1), .val (.int (0 : Int32)), .val (.int (9 : Int32)), .unset, .unset] [] := by first | (simp [entryFrame, mkF, argsToLocals, Value.category]; done) | rfl
def own_Q_chr (Z : State) (b : Addr) (p1 : Int32) (k : ClassId) (h0 : Heap) (n0 : Nat) (v : Option Value) (h : Heap) (L : List Loc) : Prop := v = some (.int (own_ix (p1.toInt8.toInt32))) ∧ Fr n0 L ∧ h = h0
set_option maxRecDepth 65536 in
set_option maxHeartbeats 40000000 in
theorem own_rm_chr (l : Launch) (Z : State) (a0 : Array Value) (hw : ∀ d ∈ tables_1, d.before a0 Z = true) (ws : List Jvm.Cond) (b : Addr) (p1 : Int32) (k : ClassId) (h0 : Heap) (n0 : Nat) (Z0 : n0 ≤ h0.size) (V0 : Arv Z h0 b k .byte (9 : Int32) own_vs (.int 0)) :
    MetFree l (⟨"java/lang/StringLatin1", "indexOfChar", "([BIII)I"⟩ : MethodName) (head1 (Jvm.Cond.code (⟨"java/lang/StringLatin1", "indexOfChar", "([BIII)I"⟩ : MethodName) jdk_43_method_23_code 6 (some .int) :: ws) ({ frames := 0, cells := 0, slots := 0, locals := 0 } : Room)) (fun a U => a = #[(.ref b), (.int p1), (.int (0 : Int32)), (.int (9 : Int32))] ∧ Z.Warmed39 U.vm ∧ U.heap = h0) (fun _ _ _ _ _ => True) (fun _ U o U' => ∃ v L, o = .returned v ∧ own_Q_chr Z b p1 k h0 n0 v U'.heap L ∧ FrameEnd U o U' L ({ frames := 0, cells := 0, slots := 0, locals := 0 } : Room).cells ({ frames := 0, cells := 0, slots := 0, locals := 0 } : Room).slots) := by
  refine MetFree.of_bodySF (plainFor_of_name own_pn1) hisR ?_
  intro p e s m args below meth c s₁ Bd hml0 hP hK
  obtain ⟨rfl, hZ, hh⟩ := hP
  have hx := Bd.exec
  have hby := Bd.bytes
  have hml : c.maxLocals = 6 := hml0
  have hown : s.vm.findClass "java/lang/StringLatin1" = some m.cls := findClass_of_methodNamed Bd.named
  have hnm := (name_of_methodNamed Bd.named Bd.method).1
  have X0 : Stand p l e ({ frames := 0, cells := 0, slots := 0, locals := 0 } : Room) s m #[(.ref b), (.int p1), (.int (0 : Int32)), (.int (9 : Int32))] below meth c s₁ [] 0 0 := Stand.of_body Bd
  have e0 : s₁.heap = h0 := by rw [← hh, Bd.state]; rfl
  have N0 := Fr.nil n0
  have pre0 : ∀ t, Steps p.tables e below (s₁.setTop (mkF m 0 #[.val (.ref b), .val (.int p1), .val (.int (0 : Int32)), .val (.int (9 : Int32)), .unset, .unset] [])) t → Steps p.tables e below (s₁.setTop (entryFrame m #[(.ref b), (.int p1), (.int (0 : Int32)), (.int (9 : Int32))] 6)) t := fun t k => castTop (own_ef_chr m b p1) k
  obtain ⟨c1, hc1⟩ : ∃ z : Int32, z = (p1.toInt8.toInt32) := ⟨_, rfl⟩
  obtain ⟨r0, hr0⟩ : ∃ z : Int32, z = own_ix c1 := ⟨_, rfl⟩
  have Vt2 := V0
  obtain ⟨cl2, Ar2, -, Sz2, Nn2, Hh2, -⟩ := Vt2
  have hin2 : ¬ ((0 : Int32) < 0 ∨ cl2.slots.size ≤ ((0 : Int32)).toNatClampNeg) := inb_of Sz2 ⟨by decide, by decide⟩
  have hat2 : cl2.slots[((0 : Int32)).toNatClampNeg]? = some (.int (40 : Int32)) := Hh2.at hin2 rfl
  have Vt3 := V0
  obtain ⟨cl3, Ar3, -, Sz3, Nn3, Hh3, -⟩ := Vt3
  have hin3 : ¬ ((1 : Int32) < 0 ∨ cl3.slots.size ≤ ((1 : Int32)).toNatClampNeg) := inb_of Sz3 ⟨by decide, by decide⟩
  have hat3 : cl3.slots[((1 : Int32)).toNatClampNeg]? = some (.int (41 : Int32)) := Hh3.at hin3 rfl
  have Vt4 := V0
  obtain ⟨cl4, Ar4, -, Sz4, Nn4, Hh4, -⟩ := Vt4
  have hin4 : ¬ ((2 : Int32) < 0 ∨ cl4.slots.size ≤ ((2 : Int32)).toNatClampNeg) := inb_of Sz4 ⟨by decide, by decide⟩
  have hat4 : cl4.slots[((2 : Int32)).toNatClampNeg]? = some (.int (44 : Int32)) := Hh4.at hin4 rfl
  have Vt5 := V0
  obtain ⟨cl5, Ar5, -, Sz5, Nn5, Hh5, -⟩ := Vt5
  have hin5 : ¬ ((3 : Int32) < 0 ∨ cl5.slots.size ≤ ((3 : Int32)).toNatClampNeg) := inb_of Sz5 ⟨by decide, by decide⟩
  have hat5 : cl5.slots[((3 : Int32)).toNatClampNeg]? = some (.int (92 : Int32)) := Hh5.at hin5 rfl
  have Vt6 := V0
  obtain ⟨cl6, Ar6, -, Sz6, Nn6, Hh6, -⟩ := Vt6
  have hin6 : ¬ ((4 : Int32) < 0 ∨ cl6.slots.size ≤ ((4 : Int32)).toNatClampNeg) := inb_of Sz6 ⟨by decide, by decide⟩
  have hat6 : cl6.slots[((4 : Int32)).toNatClampNeg]? = some (.int (33 : Int32)) := Hh6.at hin6 rfl
  have Vt7 := V0
  obtain ⟨cl7, Ar7, -, Sz7, Nn7, Hh7, -⟩ := Vt7
  have hin7 : ¬ ((5 : Int32) < 0 ∨ cl7.slots.size ≤ ((5 : Int32)).toNatClampNeg) := inb_of Sz7 ⟨by decide, by decide⟩
  have hat7 : cl7.slots[((5 : Int32)).toNatClampNeg]? = some (.int (60 : Int32)) := Hh7.at hin7 rfl
  have Vt8 := V0
  obtain ⟨cl8, Ar8, -, Sz8, Nn8, Hh8, -⟩ := Vt8
  have hin8 : ¬ ((6 : Int32) < 0 ∨ cl8.slots.size ≤ ((6 : Int32)).toNatClampNeg) := inb_of Sz8 ⟨by decide, by decide⟩
  have hat8 : cl8.slots[((6 : Int32)).toNatClampNeg]? = some (.int (61 : Int32)) := Hh8.at hin8 rfl
  have Vt9 := V0
  obtain ⟨cl9, Ar9, -, Sz9, Nn9, Hh9, -⟩ := Vt9
  have hin9 : ¬ ((7 : Int32) < 0 ∨ cl9.slots.size ≤ ((7 : Int32)).toNatClampNeg) := inb_of Sz9 ⟨by decide, by decide⟩
  have hat9 : cl9.slots[((7 : Int32)).toNatClampNeg]? = some (.int (62 : Int32)) := Hh9.at hin9 rfl
  have Vt10 := V0
  obtain ⟨cl10, Ar10, -, Sz10, Nn10, Hh10, -⟩ := Vt10
  have hin10 : ¬ ((8 : Int32) < 0 ∨ cl10.slots.size ≤ ((8 : Int32)).toNatClampNeg) := inb_of Sz10 ⟨by decide, by decide⟩
  have hat10 : cl10.slots[((8 : Int32)).toNatClampNeg]? = some (.int (126 : Int32)) := Hh10.at hin10 rfl
  obtain ⟨fs, hr, hrun, hended, hW, hsame⟩ := X0.leave (v := some (.int r0)) (fun h => by rw [Bd.returns] at h; cases h)
  refine ⟨_, _, pre0 _ ?_, hrun, hended, _, _, rfl, ?_, ⟨_, rfl⟩, hW, hsame.mono (by decide) (by decide)⟩
  · show Steps p.tables e below (s₁.setTop (mkF m 0 #[.val (.ref b), .val (.int p1), .val (.int (0 : Int32)), .val (.int (9 : Int32)), .unset, .unset] [])) _
    refine XS.iloadN X0.here hx rfl (hb hby own_d_jdk_43_method_23_0) rfl ?_
    show Steps p.tables e below (s₁.setTop (mkF m 1 #[.val (.ref b), .val (.int p1), .val (.int (0 : Int32)), .val (.int (9 : Int32)), .unset, .unset] [(.int p1)])) _
    refine XS.i2b X0.here hx rfl (hb hby own_d_jdk_43_method_23_1) rfl ?_
    show Steps p.tables e below (s₁.setTop (mkF m 2 #[.val (.ref b), .val (.int p1), .val (.int (0 : Int32)), .val (.int (9 : Int32)), .unset, .unset] [(.int (p1.toInt8.toInt32))])) _
    rw [← hc1]
    show Steps p.tables e below (s₁.setTop (mkF m 2 #[.val (.ref b), .val (.int p1), .val (.int (0 : Int32)), .val (.int (9 : Int32)), .unset, .unset] [(.int c1)])) _
    refine XS.istore X0.here hx rfl (hb hby own_d_jdk_43_method_23_2) rfl (l' := #[.val (.ref b), .val (.int p1), .val (.int (0 : Int32)), .val (.int (9 : Int32)), .val (.int c1), .unset]) rfl ?_
    show Steps p.tables e below (s₁.setTop (mkF m 4 #[.val (.ref b), .val (.int p1), .val (.int (0 : Int32)), .val (.int (9 : Int32)), .val (.int c1), .unset] [])) _
    refine XS.iloadN X0.here hx rfl (hb hby own_d_jdk_43_method_23_4) rfl ?_
    show Steps p.tables e below (s₁.setTop (mkF m 5 #[.val (.ref b), .val (.int p1), .val (.int (0 : Int32)), .val (.int (9 : Int32)), .val (.int c1), .unset] [(.int (0 : Int32))])) _
    refine XS.istore X0.here hx rfl (hb hby own_d_jdk_43_method_23_5) rfl (l' := #[.val (.ref b), .val (.int p1), .val (.int (0 : Int32)), .val (.int (9 : Int32)), .val (.int c1), .val (.int (0 : Int32))]) rfl ?_
    show Steps p.tables e below (s₁.setTop (mkF m 7 #[.val (.ref b), .val (.int p1), .val (.int (0 : Int32)), .val (.int (9 : Int32)), .val (.int c1), .val (.int (0 : Int32))] [])) _
    refine XS.iload X0.here hx rfl (hb hby own_d_jdk_43_method_23_7) rfl ?_
    show Steps p.tables e below (s₁.setTop (mkF m 9 #[.val (.ref b), .val (.int p1), .val (.int (0 : Int32)), .val (.int (9 : Int32)), .val (.int c1), .val (.int (0 : Int32))] [(.int (0 : Int32))])) _
    refine XS.iloadN X0.here hx rfl (hb hby own_d_jdk_43_method_23_9) rfl ?_
    show Steps p.tables e below (s₁.setTop (mkF m 10 #[.val (.ref b), .val (.int p1), .val (.int (0 : Int32)), .val (.int (9 : Int32)), .val (.int c1), .val (.int (0 : Int32))] [(.int (9 : Int32)), (.int (0 : Int32))])) _
    refine XS.icmpNo X0.here hx rfl (hb hby own_d_jdk_43_method_23_10) rfl (tlt (by decide)).2.1 ?_
    show Steps p.tables e below (s₁.setTop (mkF m 13 #[.val (.ref b), .val (.int p1), .val (.int (0 : Int32)), .val (.int (9 : Int32)), .val (.int c1), .val (.int (0 : Int32))] [])) _
    refine XS.aloadN X0.here hx rfl (hb hby own_d_jdk_43_method_23_13) rfl rfl ?_
    show Steps p.tables e below (s₁.setTop (mkF m 14 #[.val (.ref b), .val (.int p1), .val (.int (0 : Int32)), .val (.int (9 : Int32)), .val (.int c1), .val (.int (0 : Int32))] [(.ref b)])) _
    refine XS.iload X0.here hx rfl (hb hby own_d_jdk_43_method_23_14) rfl ?_
    show Steps p.tables e below (s₁.setTop (mkF m 16 #[.val (.ref b), .val (.int p1), .val (.int (0 : Int32)), .val (.int (9 : Int32)), .val (.int c1), .val (.int (0 : Int32))] [(.int (0 : Int32)), (.ref b)])) _
    refine X0.baloadBytes hx (j := (0 : Int32)) (v := (.int (40 : Int32))) (by rw [e0]; exact Ar2.1) (State.isArrayOf_alike hZ.alike Ar2.2.1) Ar2.2.2 hin2 hat2 (g := (mkF m 16 #[.val (.ref b), .val (.int p1), .val (.int (0 : Int32)), .val (.int (9 : Int32)), .val (.int c1), .val (.int (0 : Int32))] [(.int (0 : Int32)), (.ref b)])) rfl rfl (hb hby own_d_jdk_43_method_23_16) _ ?_
    show Steps p.tables e below (s₁.setTop (mkF m 17 #[.val (.ref b), .val (.int p1), .val (.int (0 : Int32)), .val (.int (9 : Int32)), .val (.int c1), .val (.int (0 : Int32))] [(.int (40 : Int32))])) _
    refine XS.iload X0.here hx rfl (hb hby own_d_jdk_43_method_23_17) rfl ?_
    by_cases hc19_1 : (40 : Int32) = c1
    · show Steps p.tables e below (s₁.setTop (mkF m 19 #[.val (.ref b), .val (.int p1), .val (.int (0 : Int32)), .val (.int (9 : Int32)), .val (.int c1), .val (.int (0 : Int32))] [(.int c1), (.int (40 : Int32))])) _
      refine XS.icmpNo X0.here hx rfl (hb hby own_d_jdk_43_method_23_19) rfl (teq hc19_1).2 ?_
      show Steps p.tables e below (s₁.setTop (mkF m 22 #[.val (.ref b), .val (.int p1), .val (.int (0 : Int32)), .val (.int (9 : Int32)), .val (.int c1), .val (.int (0 : Int32))] [])) _
      refine XS.iload X0.here hx rfl (hb hby own_d_jdk_43_method_23_22) rfl ?_
      have hv : r0 = (0 : Int32) := by rw [hr0, own_ix, if_pos hc19_1]
      rw [hv] at hr
      show Steps p.tables e below (s₁.setTop (mkF m 24 #[.val (.ref b), .val (.int p1), .val (.int (0 : Int32)), .val (.int (9 : Int32)), .val (.int c1), .val (.int (0 : Int32))] [(.int (0 : Int32))])) _
      exact retI X0 hx Bd.returns (hb hby own_d_jdk_43_method_23_24) hr
    · show Steps p.tables e below (s₁.setTop (mkF m 19 #[.val (.ref b), .val (.int p1), .val (.int (0 : Int32)), .val (.int (9 : Int32)), .val (.int c1), .val (.int (0 : Int32))] [(.int c1), (.int (40 : Int32))])) _
      refine XS.icmpYes X0.here hx rfl (pc0 := 19) (pc' := 25) rfl (hb hby own_d_jdk_43_method_23_19) rfl (feq hc19_1).2 (by decide) (by decide) ?_
      show Steps p.tables e below (s₁.setTop (mkF m 25 #[.val (.ref b), .val (.int p1), .val (.int (0 : Int32)), .val (.int (9 : Int32)), .val (.int c1), .val (.int (0 : Int32))] [])) _
      refine XS.iinc X0.here hx rfl (hb hby own_d_jdk_43_method_23_25) rfl (l' := #[.val (.ref b), .val (.int p1), .val (.int (0 : Int32)), .val (.int (9 : Int32)), .val (.int c1), .val (.int (1 : Int32))]) rfl ?_
      show Steps p.tables e below (s₁.setTop (mkF m 28 #[.val (.ref b), .val (.int p1), .val (.int (0 : Int32)), .val (.int (9 : Int32)), .val (.int c1), .val (.int (1 : Int32))] [])) _
      refine XS.goto X0.here hx rfl (pc0 := 28) (pc' := 7) rfl (hb hby own_d_jdk_43_method_23_28) (by decide) (by decide) ?_
      show Steps p.tables e below (s₁.setTop (mkF m 7 #[.val (.ref b), .val (.int p1), .val (.int (0 : Int32)), .val (.int (9 : Int32)), .val (.int c1), .val (.int (1 : Int32))] [])) _
      refine XS.iload X0.here hx rfl (hb hby own_d_jdk_43_method_23_7) rfl ?_
      show Steps p.tables e below (s₁.setTop (mkF m 9 #[.val (.ref b), .val (.int p1), .val (.int (0 : Int32)), .val (.int (9 : Int32)), .val (.int c1), .val (.int (1 : Int32))] [(.int (1 : Int32))])) _
      refine XS.iloadN X0.here hx rfl (hb hby own_d_jdk_43_method_23_9) rfl ?_
      show Steps p.tables e below (s₁.setTop (mkF m 10 #[.val (.ref b), .val (.int p1), .val (.int (0 : Int32)), .val (.int (9 : Int32)), .val (.int c1), .val (.int (1 : Int32))] [(.int (9 : Int32)), (.int (1 : Int32))])) _
      refine XS.icmpNo X0.here hx rfl (hb hby own_d_jdk_43_method_23_10) rfl (tlt (by decide)).2.1 ?_
      show Steps p.tables e below (s₁.setTop (mkF m 13 #[.val (.ref b), .val (.int p1), .val (.int (0 : Int32)), .val (.int (9 : Int32)), .val (.int c1), .val (.int (1 : Int32))] [])) _
      refine XS.aloadN X0.here hx rfl (hb hby own_d_jdk_43_method_23_13) rfl rfl ?_
      show Steps p.tables e below (s₁.setTop (mkF m 14 #[.val (.ref b), .val (.int p1), .val (.int (0 : Int32)), .val (.int (9 : Int32)), .val (.int c1), .val (.int (1 : Int32))] [(.ref b)])) _
      refine XS.iload X0.here hx rfl (hb hby own_d_jdk_43_method_23_14) rfl ?_
      show Steps p.tables e below (s₁.setTop (mkF m 16 #[.val (.ref b), .val (.int p1), .val (.int (0 : Int32)), .val (.int (9 : Int32)), .val (.int c1), .val (.int (1 : Int32))] [(.int (1 : Int32)), (.ref b)])) _
      refine X0.baloadBytes hx (j := (1 : Int32)) (v := (.int (41 : Int32))) (by rw [e0]; exact Ar3.1) (State.isArrayOf_alike hZ.alike Ar3.2.1) Ar3.2.2 hin3 hat3 (g := (mkF m 16 #[.val (.ref b), .val (.int p1), .val (.int (0 : Int32)), .val (.int (9 : Int32)), .val (.int c1), .val (.int (1 : Int32))] [(.int (1 : Int32)), (.ref b)])) rfl rfl (hb hby own_d_jdk_43_method_23_16) _ ?_
      show Steps p.tables e below (s₁.setTop (mkF m 17 #[.val (.ref b), .val (.int p1), .val (.int (0 : Int32)), .val (.int (9 : Int32)), .val (.int c1), .val (.int (1 : Int32))] [(.int (41 : Int32))])) _
      refine XS.iload X0.here hx rfl (hb hby own_d_jdk_43_method_23_17) rfl ?_
      by_cases hc19_2 : (41 : Int32) = c1
      · show Steps p.tables e below (s₁.setTop (mkF m 19 #[.val (.ref b), .val (.int p1), .val (.int (0 : Int32)), .val (.int (9 : Int32)), .val (.int c1), .val (.int (1 : Int32))] [(.int c1), (.int (41 : Int32))])) _
        refine XS.icmpNo X0.here hx rfl (hb hby own_d_jdk_43_method_23_19) rfl (teq hc19_2).2 ?_
        show Steps p.tables e below (s₁.setTop (mkF m 22 #[.val (.ref b), .val (.int p1), .val (.int (0 : Int32)), .val (.int (9 : Int32)), .val (.int c1), .val (.int (1 : Int32))] [])) _
        refine XS.iload X0.here hx rfl (hb hby own_d_jdk_43_method_23_22) rfl ?_
        have hv : r0 = (1 : Int32) := by rw [hr0, own_ix, if_neg hc19_1]; rw [if_pos hc19_2]
        rw [hv] at hr
        show Steps p.tables e below (s₁.setTop (mkF m 24 #[.val (.ref b), .val (.int p1), .val (.int (0 : Int32)), .val (.int (9 : Int32)), .val (.int c1), .val (.int (1 : Int32))] [(.int (1 : Int32))])) _
        exact retI X0 hx Bd.returns (hb hby own_d_jdk_43_method_23_24) hr
      · show Steps p.tables e below (s₁.setTop (mkF m 19 #[.val (.ref b), .val (.int p1), .val (.int (0 : Int32)), .val (.int (9 : Int32)), .val (.int c1), .val (.int (1 : Int32))] [(.int c1), (.int (41 : Int32))])) _
        refine XS.icmpYes X0.here hx rfl (pc0 := 19) (pc' := 25) rfl (hb hby own_d_jdk_43_method_23_19) rfl (feq hc19_2).2 (by decide) (by decide) ?_
        show Steps p.tables e below (s₁.setTop (mkF m 25 #[.val (.ref b), .val (.int p1), .val (.int (0 : Int32)), .val (.int (9 : Int32)), .val (.int c1), .val (.int (1 : Int32))] [])) _
        refine XS.iinc X0.here hx rfl (hb hby own_d_jdk_43_method_23_25) rfl (l' := #[.val (.ref b), .val (.int p1), .val (.int (0 : Int32)), .val (.int (9 : Int32)), .val (.int c1), .val (.int (2 : Int32))]) rfl ?_
        show Steps p.tables e below (s₁.setTop (mkF m 28 #[.val (.ref b), .val (.int p1), .val (.int (0 : Int32)), .val (.int (9 : Int32)), .val (.int c1), .val (.int (2 : Int32))] [])) _
        refine XS.goto X0.here hx rfl (pc0 := 28) (pc' := 7) rfl (hb hby own_d_jdk_43_method_23_28) (by decide) (by decide) ?_
        show Steps p.tables e below (s₁.setTop (mkF m 7 #[.val (.ref b), .val (.int p1), .val (.int (0 : Int32)), .val (.int (9 : Int32)), .val (.int c1), .val (.int (2 : Int32))] [])) _
        refine XS.iload X0.here hx rfl (hb hby own_d_jdk_43_method_23_7) rfl ?_
        show Steps p.tables e below (s₁.setTop (mkF m 9 #[.val (.ref b), .val (.int p1), .val (.int (0 : Int32)), .val (.int (9 : Int32)), .val (.int c1), .val (.int (2 : Int32))] [(.int (2 : Int32))])) _
        refine XS.iloadN X0.here hx rfl (hb hby own_d_jdk_43_method_23_9) rfl ?_
        show Steps p.tables e below (s₁.setTop (mkF m 10 #[.val (.ref b), .val (.int p1), .val (.int (0 : Int32)), .val (.int (9 : Int32)), .val (.int c1), .val (.int (2 : Int32))] [(.int (9 : Int32)), (.int (2 : Int32))])) _
        refine XS.icmpNo X0.here hx rfl (hb hby own_d_jdk_43_method_23_10) rfl (tlt (by decide)).2.1 ?_
        show Steps p.tables e below (s₁.setTop (mkF m 13 #[.val (.ref b), .val (.int p1), .val (.int (0 : Int32)), .val (.int (9 : Int32)), .val (.int c1), .val (.int (2 : Int32))] [])) _
        refine XS.aloadN X0.here hx rfl (hb hby own_d_jdk_43_method_23_13) rfl rfl ?_
        show Steps p.tables e below (s₁.setTop (mkF m 14 #[.val (.ref b), .val (.int p1), .val (.int (0 : Int32)), .val (.int (9 : Int32)), .val (.int c1), .val (.int (2 : Int32))] [(.ref b)])) _
        refine XS.iload X0.here hx rfl (hb hby own_d_jdk_43_method_23_14) rfl ?_
        show Steps p.tables e below (s₁.setTop (mkF m 16 #[.val (.ref b), .val (.int p1), .val (.int (0 : Int32)), .val (.int (9 : Int32)), .val (.int c1), .val (.int (2 : Int32))] [(.int (2 : Int32)), (.ref b)])) _
        refine X0.baloadBytes hx (j := (2 : Int32)) (v := (.int (44 : Int32))) (by rw [e0]; exact Ar4.1) (State.isArrayOf_alike hZ.alike Ar4.2.1) Ar4.2.2 hin4 hat4 (g := (mkF m 16 #[.val (.ref b), .val (.int p1), .val (.int (0 : Int32)), .val (.int (9 : Int32)), .val (.int c1), .val (.int (2 : Int32))] [(.int (2 : Int32)), (.ref b)])) rfl rfl (hb hby own_d_jdk_43_method_23_16) _ ?_
        show Steps p.tables e below (s₁.setTop (mkF m 17 #[.val (.ref b), .val (.int p1), .val (.int (0 : Int32)), .val (.int (9 : Int32)), .val (.int c1), .val (.int (2 : Int32))] [(.int (44 : Int32))])) _
        refine XS.iload X0.here hx rfl (hb hby own_d_jdk_43_method_23_17) rfl ?_
        by_cases hc19_3 : (44 : Int32) = c1
        · show Steps p.tables e below (s₁.setTop (mkF m 19 #[.val (.ref b), .val (.int p1), .val (.int (0 : Int32)), .val (.int (9 : Int32)), .val (.int c1), .val (.int (2 : Int32))] [(.int c1), (.int (44 : Int32))])) _
          refine XS.icmpNo X0.here hx rfl (hb hby own_d_jdk_43_method_23_19) rfl (teq hc19_3).2 ?_
          show Steps p.tables e below (s₁.setTop (mkF m 22 #[.val (.ref b), .val (.int p1), .val (.int (0 : Int32)), .val (.int (9 : Int32)), .val (.int c1), .val (.int (2 : Int32))] [])) _
          refine XS.iload X0.here hx rfl (hb hby own_d_jdk_43_method_23_22) rfl ?_
          have hv : r0 = (2 : Int32) := by rw [hr0, own_ix, if_neg hc19_1, if_neg hc19_2]; rw [if_pos hc19_3]
          rw [hv] at hr
          show Steps p.tables e below (s₁.setTop (mkF m 24 #[.val (.ref b), .val (.int p1), .val (.int (0 : Int32)), .val (.int (9 : Int32)), .val (.int c1), .val (.int (2 : Int32))] [(.int (2 : Int32))])) _
          exact retI X0 hx Bd.returns (hb hby own_d_jdk_43_method_23_24) hr
        · show Steps p.tables e below (s₁.setTop (mkF m 19 #[.val (.ref b), .val (.int p1), .val (.int (0 : Int32)), .val (.int (9 : Int32)), .val (.int c1), .val (.int (2 : Int32))] [(.int c1), (.int (44 : Int32))])) _
          refine XS.icmpYes X0.here hx rfl (pc0 := 19) (pc' := 25) rfl (hb hby own_d_jdk_43_method_23_19) rfl (feq hc19_3).2 (by decide) (by decide) ?_
          show Steps p.tables e below (s₁.setTop (mkF m 25 #[.val (.ref b), .val (.int p1), .val (.int (0 : Int32)), .val (.int (9 : Int32)), .val (.int c1), .val (.int (2 : Int32))] [])) _
          refine XS.iinc X0.here hx rfl (hb hby own_d_jdk_43_method_23_25) rfl (l' := #[.val (.ref b), .val (.int p1), .val (.int (0 : Int32)), .val (.int (9 : Int32)), .val (.int c1), .val (.int (3 : Int32))]) rfl ?_
          show Steps p.tables e below (s₁.setTop (mkF m 28 #[.val (.ref b), .val (.int p1), .val (.int (0 : Int32)), .val (.int (9 : Int32)), .val (.int c1), .val (.int (3 : Int32))] [])) _
          refine XS.goto X0.here hx rfl (pc0 := 28) (pc' := 7) rfl (hb hby own_d_jdk_43_method_23_28) (by decide) (by decide) ?_
          show Steps p.tables e below (s₁.setTop (mkF m 7 #[.val (.ref b), .val (.int p1), .val (.int (0 : Int32)), .val (.int (9 : Int32)), .val (.int c1), .val (.int (3 : Int32))] [])) _
          refine XS.iload X0.here hx rfl (hb hby own_d_jdk_43_method_23_7) rfl ?_
          show Steps p.tables e below (s₁.setTop (mkF m 9 #[.val (.ref b), .val (.int p1), .val (.int (0 : Int32)), .val (.int (9 : Int32)), .val (.int c1), .val (.int (3 : Int32))] [(.int (3 : Int32))])) _
          refine XS.iloadN X0.here hx rfl (hb hby own_d_jdk_43_method_23_9) rfl ?_
          show Steps p.tables e below (s₁.setTop (mkF m 10 #[.val (.ref b), .val (.int p1), .val (.int (0 : Int32)), .val (.int (9 : Int32)), .val (.int c1), .val (.int (3 : Int32))] [(.int (9 : Int32)), (.int (3 : Int32))])) _
          refine XS.icmpNo X0.here hx rfl (hb hby own_d_jdk_43_method_23_10) rfl (tlt (by decide)).2.1 ?_
          show Steps p.tables e below (s₁.setTop (mkF m 13 #[.val (.ref b), .val (.int p1), .val (.int (0 : Int32)), .val (.int (9 : Int32)), .val (.int c1), .val (.int (3 : Int32))] [])) _
          refine XS.aloadN X0.here hx rfl (hb hby own_d_jdk_43_method_23_13) rfl rfl ?_
          show Steps p.tables e below (s₁.setTop (mkF m 14 #[.val (.ref b), .val (.int p1), .val (.int (0 : Int32)), .val (.int (9 : Int32)), .val (.int c1), .val (.int (3 : Int32))] [(.ref b)])) _
          refine XS.iload X0.here hx rfl (hb hby own_d_jdk_43_method_23_14) rfl ?_
          show Steps p.tables e below (s₁.setTop (mkF m 16 #[.val (.ref b), .val (.int p1), .val (.int (0 : Int32)), .val (.int (9 : Int32)), .val (.int c1), .val (.int (3 : Int32))] [(.int (3 : Int32)), (.ref b)])) _
          refine X0.baloadBytes hx (j := (3 : Int32)) (v := (.int (92 : Int32))) (by rw [e0]; exact Ar5.1) (State.isArrayOf_alike hZ.alike Ar5.2.1) Ar5.2.2 hin5 hat5 (g := (mkF m 16 #[.val (.ref b), .val (.int p1), .val (.int (0 : Int32)), .val (.int (9 : Int32)), .val (.int c1), .val (.int (3 : Int32))] [(.int (3 : Int32)), (.ref b)])) rfl rfl (hb hby own_d_jdk_43_method_23_16) _ ?_
          show Steps p.tables e below (s₁.setTop (mkF m 17 #[.val (.ref b), .val (.int p1), .val (.int (0 : Int32)), .val (.int (9 : Int32)), .val (.int c1), .val (.int (3 : Int32))] [(.int (92 : Int32))])) _
          refine XS.iload X0.here hx rfl (hb hby own_d_jdk_43_method_23_17) rfl ?_
          by_cases hc19_4 : (92 : Int32) = c1
          · show Steps p.tables e below (s₁.setTop (mkF m 19 #[.val (.ref b), .val (.int p1), .val (.int (0 : Int32)), .val (.int (9 : Int32)), .val (.int c1), .val (.int (3 : Int32))] [(.int c1), (.int (92 : Int32))])) _
            refine XS.icmpNo X0.here hx rfl (hb hby own_d_jdk_43_method_23_19) rfl (teq hc19_4).2 ?_
            show Steps p.tables e below (s₁.setTop (mkF m 22 #[.val (.ref b), .val (.int p1), .val (.int (0 : Int32)), .val (.int (9 : Int32)), .val (.int c1), .val (.int (3 : Int32))] [])) _
            refine XS.iload X0.here hx rfl (hb hby own_d_jdk_43_method_23_22) rfl ?_
            have hv : r0 = (3 : Int32) := by rw [hr0, own_ix, if_neg hc19_1, if_neg hc19_2, if_neg hc19_3]; rw [if_pos hc19_4]
            rw [hv] at hr
            show Steps p.tables e below (s₁.setTop (mkF m 24 #[.val (.ref b), .val (.int p1), .val (.int (0 : Int32)), .val (.int (9 : Int32)), .val (.int c1), .val (.int (3 : Int32))] [(.int (3 : Int32))])) _
            exact retI X0 hx Bd.returns (hb hby own_d_jdk_43_method_23_24) hr
          · show Steps p.tables e below (s₁.setTop (mkF m 19 #[.val (.ref b), .val (.int p1), .val (.int (0 : Int32)), .val (.int (9 : Int32)), .val (.int c1), .val (.int (3 : Int32))] [(.int c1), (.int (92 : Int32))])) _
            refine XS.icmpYes X0.here hx rfl (pc0 := 19) (pc' := 25) rfl (hb hby own_d_jdk_43_method_23_19) rfl (feq hc19_4).2 (by decide) (by decide) ?_
            show Steps p.tables e below (s₁.setTop (mkF m 25 #[.val (.ref b), .val (.int p1), .val (.int (0 : Int32)), .val (.int (9 : Int32)), .val (.int c1), .val (.int (3 : Int32))] [])) _
            refine XS.iinc X0.here hx rfl (hb hby own_d_jdk_43_method_23_25) rfl (l' := #[.val (.ref b), .val (.int p1), .val (.int (0 : Int32)), .val (.int (9 : Int32)), .val (.int c1), .val (.int (4 : Int32))]) rfl ?_
            show Steps p.tables e below (s₁.setTop (mkF m 28 #[.val (.ref b), .val (.int p1), .val (.int (0 : Int32)), .val (.int (9 : Int32)), .val (.int c1), .val (.int (4 : Int32))] [])) _
            refine XS.goto X0.here hx rfl (pc0 := 28) (pc' := 7) rfl (hb hby own_d_jdk_43_method_23_28) (by decide) (by decide) ?_
            show Steps p.tables e below (s₁.setTop (mkF m 7 #[.val (.ref b), .val (.int p1), .val (.int (0 : Int32)), .val (.int (9 : Int32)), .val (.int c1), .val (.int (4 : Int32))] [])) _
            refine XS.iload X0.here hx rfl (hb hby own_d_jdk_43_method_23_7) rfl ?_
            show Steps p.tables e below (s₁.setTop (mkF m 9 #[.val (.ref b), .val (.int p1), .val (.int (0 : Int32)), .val (.int (9 : Int32)), .val (.int c1), .val (.int (4 : Int32))] [(.int (4 : Int32))])) _
            refine XS.iloadN X0.here hx rfl (hb hby own_d_jdk_43_method_23_9) rfl ?_
            show Steps p.tables e below (s₁.setTop (mkF m 10 #[.val (.ref b), .val (.int p1), .val (.int (0 : Int32)), .val (.int (9 : Int32)), .val (.int c1), .val (.int (4 : Int32))] [(.int (9 : Int32)), (.int (4 : Int32))])) _
            refine XS.icmpNo X0.here hx rfl (hb hby own_d_jdk_43_method_23_10) rfl (tlt (by decide)).2.1 ?_
            show Steps p.tables e below (s₁.setTop (mkF m 13 #[.val (.ref b), .val (.int p1), .val (.int (0 : Int32)), .val (.int (9 : Int32)), .val (.int c1), .val (.int (4 : Int32))] [])) _
            refine XS.aloadN X0.here hx rfl (hb hby own_d_jdk_43_method_23_13) rfl rfl ?_
            show Steps p.tables e below (s₁.setTop (mkF m 14 #[.val (.ref b), .val (.int p1), .val (.int (0 : Int32)), .val (.int (9 : Int32)), .val (.int c1), .val (.int (4 : Int32))] [(.ref b)])) _
            refine XS.iload X0.here hx rfl (hb hby own_d_jdk_43_method_23_14) rfl ?_
            show Steps p.tables e below (s₁.setTop (mkF m 16 #[.val (.ref b), .val (.int p1), .val (.int (0 : Int32)), .val (.int (9 : Int32)), .val (.int c1), .val (.int (4 : Int32))] [(.int (4 : Int32)), (.ref b)])) _
            refine X0.baloadBytes hx (j := (4 : Int32)) (v := (.int (33 : Int32))) (by rw [e0]; exact Ar6.1) (State.isArrayOf_alike hZ.alike Ar6.2.1) Ar6.2.2 hin6 hat6 (g := (mkF m 16 #[.val (.ref b), .val (.int p1), .val (.int (0 : Int32)), .val (.int (9 : Int32)), .val (.int c1), .val (.int (4 : Int32))] [(.int (4 : Int32)), (.ref b)])) rfl rfl (hb hby own_d_jdk_43_method_23_16) _ ?_
            show Steps p.tables e below (s₁.setTop (mkF m 17 #[.val (.ref b), .val (.int p1), .val (.int (0 : Int32)), .val (.int (9 : Int32)), .val (.int c1), .val (.int (4 : Int32))] [(.int (33 : Int32))])) _
            refine XS.iload X0.here hx rfl (hb hby own_d_jdk_43_method_23_17) rfl ?_
            by_cases hc19_5 : (33 : Int32) = c1
            · show Steps p.tables e below (s₁.setTop (mkF m 19 #[.val (.ref b), .val (.int p1), .val (.int (0 : Int32)), .val (.int (9 : Int32)), .val (.int c1), .val (.int (4 : Int32))] [(.int c1), (.int (33 : Int32))])) _
              refine XS.icmpNo X0.here hx rfl (hb hby own_d_jdk_43_method_23_19) rfl (teq hc19_5).2 ?_
              show Steps p.tables e below (s₁.setTop (mkF m 22 #[.val (.ref b), .val (.int p1), .val (.int (0 : Int32)), .val (.int (9 : Int32)), .val (.int c1), .val (.int (4 : Int32))] [])) _
              refine XS.iload X0.here hx rfl (hb hby own_d_jdk_43_method_23_22) rfl ?_
              have hv : r0 = (4 : Int32) := by rw [hr0, own_ix, if_neg hc19_1, if_neg hc19_2, if_neg hc19_3, if_neg hc19_4]; rw [if_pos hc19_5]
              rw [hv] at hr
              show Steps p.tables e below (s₁.setTop (mkF m 24 #[.val (.ref b), .val (.int p1), .val (.int (0 : Int32)), .val (.int (9 : Int32)), .val (.int c1), .val (.int (4 : Int32))] [(.int (4 : Int32))])) _
              exact retI X0 hx Bd.returns (hb hby own_d_jdk_43_method_23_24) hr
            · show Steps p.tables e below (s₁.setTop (mkF m 19 #[.val (.ref b), .val (.int p1), .val (.int (0 : Int32)), .val (.int (9 : Int32)), .val (.int c1), .val (.int (4 : Int32))] [(.int c1), (.int (33 : Int32))])) _
              refine XS.icmpYes X0.here hx rfl (pc0 := 19) (pc' := 25) rfl (hb hby own_d_jdk_43_method_23_19) rfl (feq hc19_5).2 (by decide) (by decide) ?_
              show Steps p.tables e below (s₁.setTop (mkF m 25 #[.val (.ref b), .val (.int p1), .val (.int (0 : Int32)), .val (.int (9 : Int32)), .val (.int c1), .val (.int (4 : Int32))] [])) _
              refine XS.iinc X0.here hx rfl (hb hby own_d_jdk_43_method_23_25) rfl (l' := #[.val (.ref b), .val (.int p1), .val (.int (0 : Int32)), .val (.int (9 : Int32)), .val (.int c1), .val (.int (5 : Int32))]) rfl ?_
              show Steps p.tables e below (s₁.setTop (mkF m 28 #[.val (.ref b), .val (.int p1), .val (.int (0 : Int32)), .val (.int (9 : Int32)), .val (.int c1), .val (.int (5 : Int32))] [])) _
              refine XS.goto X0.here hx rfl (pc0 := 28) (pc' := 7) rfl (hb hby own_d_jdk_43_method_23_28) (by decide) (by decide) ?_
              show Steps p.tables e below (s₁.setTop (mkF m 7 #[.val (.ref b), .val (.int p1), .val (.int (0 : Int32)), .val (.int (9 : Int32)), .val (.int c1), .val (.int (5 : Int32))] [])) _
              refine XS.iload X0.here hx rfl (hb hby own_d_jdk_43_method_23_7) rfl ?_
              show Steps p.tables e below (s₁.setTop (mkF m 9 #[.val (.ref b), .val (.int p1), .val (.int (0 : Int32)), .val (.int (9 : Int32)), .val (.int c1), .val (.int (5 : Int32))] [(.int (5 : Int32))])) _
              refine XS.iloadN X0.here hx rfl (hb hby own_d_jdk_43_method_23_9) rfl ?_
              show Steps p.tables e below (s₁.setTop (mkF m 10 #[.val (.ref b), .val (.int p1), .val (.int (0 : Int32)), .val (.int (9 : Int32)), .val (.int c1), .val (.int (5 : Int32))] [(.int (9 : Int32)), (.int (5 : Int32))])) _
              refine XS.icmpNo X0.here hx rfl (hb hby own_d_jdk_43_method_23_10) rfl (tlt (by decide)).2.1 ?_
              show Steps p.tables e below (s₁.setTop (mkF m 13 #[.val (.ref b), .val (.int p1), .val (.int (0 : Int32)), .val (.int (9 : Int32)), .val (.int c1), .val (.int (5 : Int32))] [])) _
              refine XS.aloadN X0.here hx rfl (hb hby own_d_jdk_43_method_23_13) rfl rfl ?_
              show Steps p.tables e below (s₁.setTop (mkF m 14 #[.val (.ref b), .val (.int p1), .val (.int (0 : Int32)), .val (.int (9 : Int32)), .val (.int c1), .val (.int (5 : Int32))] [(.ref b)])) _
              refine XS.iload X0.here hx rfl (hb hby own_d_jdk_43_method_23_14) rfl ?_
              show Steps p.tables e below (s₁.setTop (mkF m 16 #[.val (.ref b), .val (.int p1), .val (.int (0 : Int32)), .val (.int (9 : Int32)), .val (.int c1), .val (.int (5 : Int32))] [(.int (5 : Int32)), (.ref b)])) _
              refine X0.baloadBytes hx (j := (5 : Int32)) (v := (.int (60 : Int32))) (by rw [e0]; exact Ar7.1) (State.isArrayOf_alike hZ.alike Ar7.2.1) Ar7.2.2 hin7 hat7 (g := (mkF m 16 #[.val (.ref b), .val (.int p1), .val (.int (0 : Int32)), .val (.int (9 : Int32)), .val (.int c1), .val (.int (5 : Int32))] [(.int (5 : Int32)), (.ref b)])) rfl rfl (hb hby own_d_jdk_43_method_23_16) _ ?_
              show Steps p.tables e below (s₁.setTop (mkF m 17 #[.val (.ref b), .val (.int p1), .val (.int (0 : Int32)), .val (.int (9 : Int32)), .val (.int c1), .val (.int (5 : Int32))] [(.int (60 : Int32))])) _
              refine XS.iload X0.here hx rfl (hb hby own_d_jdk_43_method_23_17) rfl ?_
              by_cases hc19_6 : (60 : Int32) = c1
              · show Steps p.tables e below (s₁.setTop (mkF m 19 #[.val (.ref b), .val (.int p1), .val (.int (0 : Int32)), .val (.int (9 : Int32)), .val (.int c1), .val (.int (5 : Int32))] [(.int c1), (.int (60 : Int32))])) _
                refine XS.icmpNo X0.here hx rfl (hb hby own_d_jdk_43_method_23_19) rfl (teq hc19_6).2 ?_
                show Steps p.tables e below (s₁.setTop (mkF m 22 #[.val (.ref b), .val (.int p1), .val (.int (0 : Int32)), .val (.int (9 : Int32)), .val (.int c1), .val (.int (5 : Int32))] [])) _
                refine XS.iload X0.here hx rfl (hb hby own_d_jdk_43_method_23_22) rfl ?_
                have hv : r0 = (5 : Int32) := by rw [hr0, own_ix, if_neg hc19_1, if_neg hc19_2, if_neg hc19_3, if_neg hc19_4, if_neg hc19_5]; rw [if_pos hc19_6]
                rw [hv] at hr
                show Steps p.tables e below (s₁.setTop (mkF m 24 #[.val (.ref b), .val (.int p1), .val (.int (0 : Int32)), .val (.int (9 : Int32)), .val (.int c1), .val (.int (5 : Int32))] [(.int (5 : Int32))])) _
                exact retI X0 hx Bd.returns (hb hby own_d_jdk_43_method_23_24) hr
              · show Steps p.tables e below (s₁.setTop (mkF m 19 #[.val (.ref b), .val (.int p1), .val (.int (0 : Int32)), .val (.int (9 : Int32)), .val (.int c1), .val (.int (5 : Int32))] [(.int c1), (.int (60 : Int32))])) _
                refine XS.icmpYes X0.here hx rfl (pc0 := 19) (pc' := 25) rfl (hb hby own_d_jdk_43_method_23_19) rfl (feq hc19_6).2 (by decide) (by decide) ?_
                show Steps p.tables e below (s₁.setTop (mkF m 25 #[.val (.ref b), .val (.int p1), .val (.int (0 : Int32)), .val (.int (9 : Int32)), .val (.int c1), .val (.int (5 : Int32))] [])) _
                refine XS.iinc X0.here hx rfl (hb hby own_d_jdk_43_method_23_25) rfl (l' := #[.val (.ref b), .val (.int p1), .val (.int (0 : Int32)), .val (.int (9 : Int32)), .val (.int c1), .val (.int (6 : Int32))]) rfl ?_
                show Steps p.tables e below (s₁.setTop (mkF m 28 #[.val (.ref b), .val (.int p1), .val (.int (0 : Int32)), .val (.int (9 : Int32)), .val (.int c1), .val (.int (6 : Int32))] [])) _
                refine XS.goto X0.here hx rfl (pc0 := 28) (pc' := 7) rfl (hb hby own_d_jdk_43_method_23_28) (by decide) (by decide) ?_
                show Steps p.tables e below (s₁.setTop (mkF m 7 #[.val (.ref b), .val (.int p1), .val (.int (0 : Int32)), .val (.int (9 : Int32)), .val (.int c1), .val (.int (6 : Int32))] [])) _
                refine XS.iload X0.here hx rfl (hb hby own_d_jdk_43_method_23_7) rfl ?_
                show Steps p.tables e below (s₁.setTop (mkF m 9 #[.val (.ref b), .val (.int p1), .val (.int (0 : Int32)), .val (.int (9 : Int32)), .val (.int c1), .val (.int (6 : Int32))] [(.int (6 : Int32))])) _
                refine XS.iloadN X0.here hx rfl (hb hby own_d_jdk_43_method_23_9) rfl ?_
                show Steps p.tables e below (s₁.setTop (mkF m 10 #[.val (.ref b), .val (.int p1), .val (.int (0 : Int32)), .val (.int (9 : Int32)), .val (.int c1), .val (.int (6 : Int32))] [(.int (9 : Int32)), (.int (6 : Int32))])) _
                refine XS.icmpNo X0.here hx rfl (hb hby own_d_jdk_43_method_23_10) rfl (tlt (by decide)).2.1 ?_
                show Steps p.tables e below (s₁.setTop (mkF m 13 #[.val (.ref b), .val (.int p1), .val (.int (0 : Int32)), .val (.int (9 : Int32)), .val (.int c1), .val (.int (6 : Int32))] [])) _
                refine XS.aloadN X0.here hx rfl (hb hby own_d_jdk_43_method_23_13) rfl rfl ?_
                show Steps p.tables e below (s₁.setTop (mkF m 14 #[.val (.ref b), .val (.int p1), .val (.int (0 : Int32)), .val (.int (9 : Int32)), .val (.int c1), .val (.int (6 : Int32))] [(.ref b)])) _
                refine XS.iload X0.here hx rfl (hb hby own_d_jdk_43_method_23_14) rfl ?_
                show Steps p.tables e below (s₁.setTop (mkF m 16 #[.val (.ref b), .val (.int p1), .val (.int (0 : Int32)), .val (.int (9 : Int32)), .val (.int c1), .val (.int (6 : Int32))] [(.int (6 : Int32)), (.ref b)])) _
                refine X0.baloadBytes hx (j := (6 : Int32)) (v := (.int (61 : Int32))) (by rw [e0]; exact Ar8.1) (State.isArrayOf_alike hZ.alike Ar8.2.1) Ar8.2.2 hin8 hat8 (g := (mkF m 16 #[.val (.ref b), .val (.int p1), .val (.int (0 : Int32)), .val (.int (9 : Int32)), .val (.int c1), .val (.int (6 : Int32))] [(.int (6 : Int32)), (.ref b)])) rfl rfl (hb hby own_d_jdk_43_method_23_16) _ ?_
                show Steps p.tables e below (s₁.setTop (mkF m 17 #[.val (.ref b), .val (.int p1), .val (.int (0 : Int32)), .val (.int (9 : Int32)), .val (.int c1), .val (.int (6 : Int32))] [(.int (61 : Int32))])) _
                refine XS.iload X0.here hx rfl (hb hby own_d_jdk_43_method_23_17) rfl ?_
                by_cases hc19_7 : (61 : Int32) = c1
                · show Steps p.tables e below (s₁.setTop (mkF m 19 #[.val (.ref b), .val (.int p1), .val (.int (0 : Int32)), .val (.int (9 : Int32)), .val (.int c1), .val (.int (6 : Int32))] [(.int c1), (.int (61 : Int32))])) _
                  refine XS.icmpNo X0.here hx rfl (hb hby own_d_jdk_43_method_23_19) rfl (teq hc19_7).2 ?_
                  show Steps p.tables e below (s₁.setTop (mkF m 22 #[.val (.ref b), .val (.int p1), .val (.int (0 : Int32)), .val (.int (9 : Int32)), .val (.int c1), .val (.int (6 : Int32))] [])) _
                  refine XS.iload X0.here hx rfl (hb hby own_d_jdk_43_method_23_22) rfl ?_
                  have hv : r0 = (6 : Int32) := by rw [hr0, own_ix, if_neg hc19_1, if_neg hc19_2, if_neg hc19_3, if_neg hc19_4, if_neg hc19_5, if_neg hc19_6]; rw [if_pos hc19_7]
                  rw [hv] at hr
                  show Steps p.tables e below (s₁.setTop (mkF m 24 #[.val (.ref b), .val (.int p1), .val (.int (0 : Int32)), .val (.int (9 : Int32)), .val (.int c1), .val (.int (6 : Int32))] [(.int (6 : Int32))])) _
                  exact retI X0 hx Bd.returns (hb hby own_d_jdk_43_method_23_24) hr
                · show Steps p.tables e below (s₁.setTop (mkF m 19 #[.val (.ref b), .val (.int p1), .val (.int (0 : Int32)), .val (.int (9 : Int32)), .val (.int c1), .val (.int (6 : Int32))] [(.int c1), (.int (61 : Int32))])) _
                  refine XS.icmpYes X0.here hx rfl (pc0 := 19) (pc' := 25) rfl (hb hby own_d_jdk_43_method_23_19) rfl (feq hc19_7).2 (by decide) (by decide) ?_
                  show Steps p.tables e below (s₁.setTop (mkF m 25 #[.val (.ref b), .val (.int p1), .val (.int (0 : Int32)), .val (.int (9 : Int32)), .val (.int c1), .val (.int (6 : Int32))] [])) _
                  refine XS.iinc X0.here hx rfl (hb hby own_d_jdk_43_method_23_25) rfl (l' := #[.val (.ref b), .val (.int p1), .val (.int (0 : Int32)), .val (.int (9 : Int32)), .val (.int c1), .val (.int (7 : Int32))]) rfl ?_
                  show Steps p.tables e below (s₁.setTop (mkF m 28 #[.val (.ref b), .val (.int p1), .val (.int (0 : Int32)), .val (.int (9 : Int32)), .val (.int c1), .val (.int (7 : Int32))] [])) _
                  refine XS.goto X0.here hx rfl (pc0 := 28) (pc' := 7) rfl (hb hby own_d_jdk_43_method_23_28) (by decide) (by decide) ?_
                  show Steps p.tables e below (s₁.setTop (mkF m 7 #[.val (.ref b), .val (.int p1), .val (.int (0 : Int32)), .val (.int (9 : Int32)), .val (.int c1), .val (.int (7 : Int32))] [])) _
                  refine XS.iload X0.here hx rfl (hb hby own_d_jdk_43_method_23_7) rfl ?_
                  show Steps p.tables e below (s₁.setTop (mkF m 9 #[.val (.ref b), .val (.int p1), .val (.int (0 : Int32)), .val (.int (9 : Int32)), .val (.int c1), .val (.int (7 : Int32))] [(.int (7 : Int32))])) _
                  refine XS.iloadN X0.here hx rfl (hb hby own_d_jdk_43_method_23_9) rfl ?_
                  show Steps p.tables e below (s₁.setTop (mkF m 10 #[.val (.ref b), .val (.int p1), .val (.int (0 : Int32)), .val (.int (9 : Int32)), .val (.int c1), .val (.int (7 : Int32))] [(.int (9 : Int32)), (.int (7 : Int32))])) _
                  refine XS.icmpNo X0.here hx rfl (hb hby own_d_jdk_43_method_23_10) rfl (tlt (by decide)).2.1 ?_
                  show Steps p.tables e below (s₁.setTop (mkF m 13 #[.val (.ref b), .val (.int p1), .val (.int (0 : Int32)), .val (.int (9 : Int32)), .val (.int c1), .val (.int (7 : Int32))] [])) _
                  refine XS.aloadN X0.here hx rfl (hb hby own_d_jdk_43_method_23_13) rfl rfl ?_
                  show Steps p.tables e below (s₁.setTop (mkF m 14 #[.val (.ref b), .val (.int p1), .val (.int (0 : Int32)), .val (.int (9 : Int32)), .val (.int c1), .val (.int (7 : Int32))] [(.ref b)])) _
                  refine XS.iload X0.here hx rfl (hb hby own_d_jdk_43_method_23_14) rfl ?_
                  show Steps p.tables e below (s₁.setTop (mkF m 16 #[.val (.ref b), .val (.int p1), .val (.int (0 : Int32)), .val (.int (9 : Int32)), .val (.int c1), .val (.int (7 : Int32))] [(.int (7 : Int32)), (.ref b)])) _
                  refine X0.baloadBytes hx (j := (7 : Int32)) (v := (.int (62 : Int32))) (by rw [e0]; exact Ar9.1) (State.isArrayOf_alike hZ.alike Ar9.2.1) Ar9.2.2 hin9 hat9 (g := (mkF m 16 #[.val (.ref b), .val (.int p1), .val (.int (0 : Int32)), .val (.int (9 : Int32)), .val (.int c1), .val (.int (7 : Int32))] [(.int (7 : Int32)), (.ref b)])) rfl rfl (hb hby own_d_jdk_43_method_23_16) _ ?_
                  show Steps p.tables e below (s₁.setTop (mkF m 17 #[.val (.ref b), .val (.int p1), .val (.int (0 : Int32)), .val (.int (9 : Int32)), .val (.int c1), .val (.int (7 : Int32))] [(.int (62 : Int32))])) _
                  refine XS.iload X0.here hx rfl (hb hby own_d_jdk_43_method_23_17) rfl ?_
                  by_cases hc19_8 : (62 : Int32) = c1
                  · show Steps p.tables e below (s₁.setTop (mkF m 19 #[.val (.ref b), .val (.int p1), .val (.int (0 : Int32)), .val (.int (9 : Int32)), .val (.int c1), .val (.int (7 : Int32))] [(.int c1), (.int (62 : Int32))])) _
                    refine XS.icmpNo X0.here hx rfl (hb hby own_d_jdk_43_method_23_19) rfl (teq hc19_8).2 ?_
                    show Steps p.tables e below (s₁.setTop (mkF m 22 #[.val (.ref b), .val (.int p1), .val (.int (0 : Int32)), .val (.int (9 : Int32)), .val (.int c1), .val (.int (7 : Int32))] [])) _
                    refine XS.iload X0.here hx rfl (hb hby own_d_jdk_43_method_23_22) rfl ?_
                    have hv : r0 = (7 : Int32) := by rw [hr0, own_ix, if_neg hc19_1, if_neg hc19_2, if_neg hc19_3, if_neg hc19_4, if_neg hc19_5, if_neg hc19_6, if_neg hc19_7]; rw [if_pos hc19_8]
                    rw [hv] at hr
                    show Steps p.tables e below (s₁.setTop (mkF m 24 #[.val (.ref b), .val (.int p1), .val (.int (0 : Int32)), .val (.int (9 : Int32)), .val (.int c1), .val (.int (7 : Int32))] [(.int (7 : Int32))])) _
                    exact retI X0 hx Bd.returns (hb hby own_d_jdk_43_method_23_24) hr
                  · show Steps p.tables e below (s₁.setTop (mkF m 19 #[.val (.ref b), .val (.int p1), .val (.int (0 : Int32)), .val (.int (9 : Int32)), .val (.int c1), .val (.int (7 : Int32))] [(.int c1), (.int (62 : Int32))])) _
                    refine XS.icmpYes X0.here hx rfl (pc0 := 19) (pc' := 25) rfl (hb hby own_d_jdk_43_method_23_19) rfl (feq hc19_8).2 (by decide) (by decide) ?_
                    show Steps p.tables e below (s₁.setTop (mkF m 25 #[.val (.ref b), .val (.int p1), .val (.int (0 : Int32)), .val (.int (9 : Int32)), .val (.int c1), .val (.int (7 : Int32))] [])) _
                    refine XS.iinc X0.here hx rfl (hb hby own_d_jdk_43_method_23_25) rfl (l' := #[.val (.ref b), .val (.int p1), .val (.int (0 : Int32)), .val (.int (9 : Int32)), .val (.int c1), .val (.int (8 : Int32))]) rfl ?_
                    show Steps p.tables e below (s₁.setTop (mkF m 28 #[.val (.ref b), .val (.int p1), .val (.int (0 : Int32)), .val (.int (9 : Int32)), .val (.int c1), .val (.int (8 : Int32))] [])) _
                    refine XS.goto X0.here hx rfl (pc0 := 28) (pc' := 7) rfl (hb hby own_d_jdk_43_method_23_28) (by decide) (by decide) ?_
                    show Steps p.tables e below (s₁.setTop (mkF m 7 #[.val (.ref b), .val (.int p1), .val (.int (0 : Int32)), .val (.int (9 : Int32)), .val (.int c1), .val (.int (8 : Int32))] [])) _
                    refine XS.iload X0.here hx rfl (hb hby own_d_jdk_43_method_23_7) rfl ?_
                    show Steps p.tables e below (s₁.setTop (mkF m 9 #[.val (.ref b), .val (.int p1), .val (.int (0 : Int32)), .val (.int (9 : Int32)), .val (.int c1), .val (.int (8 : Int32))] [(.int (8 : Int32))])) _
                    refine XS.iloadN X0.here hx rfl (hb hby own_d_jdk_43_method_23_9) rfl ?_
                    show Steps p.tables e below (s₁.setTop (mkF m 10 #[.val (.ref b), .val (.int p1), .val (.int (0 : Int32)), .val (.int (9 : Int32)), .val (.int c1), .val (.int (8 : Int32))] [(.int (9 : Int32)), (.int (8 : Int32))])) _
                    refine XS.icmpNo X0.here hx rfl (hb hby own_d_jdk_43_method_23_10) rfl (tlt (by decide)).2.1 ?_
                    show Steps p.tables e below (s₁.setTop (mkF m 13 #[.val (.ref b), .val (.int p1), .val (.int (0 : Int32)), .val (.int (9 : Int32)), .val (.int c1), .val (.int (8 : Int32))] [])) _
                    refine XS.aloadN X0.here hx rfl (hb hby own_d_jdk_43_method_23_13) rfl rfl ?_
                    show Steps p.tables e below (s₁.setTop (mkF m 14 #[.val (.ref b), .val (.int p1), .val (.int (0 : Int32)), .val (.int (9 : Int32)), .val (.int c1), .val (.int (8 : Int32))] [(.ref b)])) _
                    refine XS.iload X0.here hx rfl (hb hby own_d_jdk_43_method_23_14) rfl ?_
                    show Steps p.tables e below (s₁.setTop (mkF m 16 #[.val (.ref b), .val (.int p1), .val (.int (0 : Int32)), .val (.int (9 : Int32)), .val (.int c1), .val (.int (8 : Int32))] [(.int (8 : Int32)), (.ref b)])) _
                    refine X0.baloadBytes hx (j := (8 : Int32)) (v := (.int (126 : Int32))) (by rw [e0]; exact Ar10.1) (State.isArrayOf_alike hZ.alike Ar10.2.1) Ar10.2.2 hin10 hat10 (g := (mkF m 16 #[.val (.ref b), .val (.int p1), .val (.int (0 : Int32)), .val (.int (9 : Int32)), .val (.int c1), .val (.int (8 : Int32))] [(.int (8 : Int32)), (.ref b)])) rfl rfl (hb hby own_d_jdk_43_method_23_16) _ ?_
                    show Steps p.tables e below (s₁.setTop (mkF m 17 #[.val (.ref b), .val (.int p1), .val (.int (0 : Int32)), .val (.int (9 : Int32)), .val (.int c1), .val (.int (8 : Int32))] [(.int (126 : Int32))])) _
                    refine XS.iload X0.here hx rfl (hb hby own_d_jdk_43_method_23_17) rfl ?_
                    by_cases hc19_9 : (126 : Int32) = c1
                    · show Steps p.tables e below (s₁.setTop (mkF m 19 #[.val (.ref b), .val (.int p1), .val (.int (0 : Int32)), .val (.int (9 : Int32)), .val (.int c1), .val (.int (8 : Int32))] [(.int c1), (.int (126 : Int32))])) _
                      refine XS.icmpNo X0.here hx rfl (hb hby own_d_jdk_43_method_23_19) rfl (teq hc19_9).2 ?_
                      show Steps p.tables e below (s₁.setTop (mkF m 22 #[.val (.ref b), .val (.int p1), .val (.int (0 : Int32)), .val (.int (9 : Int32)), .val (.int c1), .val (.int (8 : Int32))] [])) _
                      refine XS.iload X0.here hx rfl (hb hby own_d_jdk_43_method_23_22) rfl ?_
                      have hv : r0 = (8 : Int32) := by rw [hr0, own_ix, if_neg hc19_1, if_neg hc19_2, if_neg hc19_3, if_neg hc19_4, if_neg hc19_5, if_neg hc19_6, if_neg hc19_7, if_neg hc19_8]; rw [if_pos hc19_9]
                      rw [hv] at hr
                      show Steps p.tables e below (s₁.setTop (mkF m 24 #[.val (.ref b), .val (.int p1), .val (.int (0 : Int32)), .val (.int (9 : Int32)), .val (.int c1), .val (.int (8 : Int32))] [(.int (8 : Int32))])) _
                      exact retI X0 hx Bd.returns (hb hby own_d_jdk_43_method_23_24) hr
                    · show Steps p.tables e below (s₁.setTop (mkF m 19 #[.val (.ref b), .val (.int p1), .val (.int (0 : Int32)), .val (.int (9 : Int32)), .val (.int c1), .val (.int (8 : Int32))] [(.int c1), (.int (126 : Int32))])) _
                      refine XS.icmpYes X0.here hx rfl (pc0 := 19) (pc' := 25) rfl (hb hby own_d_jdk_43_method_23_19) rfl (feq hc19_9).2 (by decide) (by decide) ?_
                      show Steps p.tables e below (s₁.setTop (mkF m 25 #[.val (.ref b), .val (.int p1), .val (.int (0 : Int32)), .val (.int (9 : Int32)), .val (.int c1), .val (.int (8 : Int32))] [])) _
                      refine XS.iinc X0.here hx rfl (hb hby own_d_jdk_43_method_23_25) rfl (l' := #[.val (.ref b), .val (.int p1), .val (.int (0 : Int32)), .val (.int (9 : Int32)), .val (.int c1), .val (.int (9 : Int32))]) rfl ?_
                      show Steps p.tables e below (s₁.setTop (mkF m 28 #[.val (.ref b), .val (.int p1), .val (.int (0 : Int32)), .val (.int (9 : Int32)), .val (.int c1), .val (.int (9 : Int32))] [])) _
                      refine XS.goto X0.here hx rfl (pc0 := 28) (pc' := 7) rfl (hb hby own_d_jdk_43_method_23_28) (by decide) (by decide) ?_
                      show Steps p.tables e below (s₁.setTop (mkF m 7 #[.val (.ref b), .val (.int p1), .val (.int (0 : Int32)), .val (.int (9 : Int32)), .val (.int c1), .val (.int (9 : Int32))] [])) _
                      refine XS.iload X0.here hx rfl (hb hby own_d_jdk_43_method_23_7) rfl ?_
                      show Steps p.tables e below (s₁.setTop (mkF m 9 #[.val (.ref b), .val (.int p1), .val (.int (0 : Int32)), .val (.int (9 : Int32)), .val (.int c1), .val (.int (9 : Int32))] [(.int (9 : Int32))])) _
                      refine XS.iloadN X0.here hx rfl (hb hby own_d_jdk_43_method_23_9) rfl ?_
                      show Steps p.tables e below (s₁.setTop (mkF m 10 #[.val (.ref b), .val (.int p1), .val (.int (0 : Int32)), .val (.int (9 : Int32)), .val (.int c1), .val (.int (9 : Int32))] [(.int (9 : Int32)), (.int (9 : Int32))])) _
                      refine XS.icmpYes X0.here hx rfl (pc0 := 10) (pc' := 31) rfl (hb hby own_d_jdk_43_method_23_10) rfl (flt (by decide)).2.1 (by decide) (by decide) ?_
                      show Steps p.tables e below (s₁.setTop (mkF m 31 #[.val (.ref b), .val (.int p1), .val (.int (0 : Int32)), .val (.int (9 : Int32)), .val (.int c1), .val (.int (9 : Int32))] [])) _
                      refine XS.iconst X0.here hx rfl (hb hby own_d_jdk_43_method_23_31) ?_
                      have hv : r0 = (-1 : Int32) := by rw [hr0, own_ix, if_neg hc19_1, if_neg hc19_2, if_neg hc19_3, if_neg hc19_4, if_neg hc19_5, if_neg hc19_6, if_neg hc19_7, if_neg hc19_8, if_neg hc19_9]
                      rw [hv] at hr
                      show Steps p.tables e below (s₁.setTop (mkF m 32 #[.val (.ref b), .val (.int p1), .val (.int (0 : Int32)), .val (.int (9 : Int32)), .val (.int c1), .val (.int (9 : Int32))] [(.int (-1 : Int32))])) _
                      exact retI X0 hx Bd.returns (hb hby own_d_jdk_43_method_23_32) hr
  · show own_Q_chr Z b p1 k h0 n0 _ s₁.heap _
    rw [e0]
    exact ⟨(by rw [hr0, hc1]), N0, rfl⟩
theorem own_d_jdk_43_method_22_0 : decode jdk_43_method_22_code 0 = .ok (.iload_n 1, 1) := by decide +kernel
theorem own_d_jdk_43_method_22_1 : decode jdk_43_method_22_code 1 = .ok (.invokestatic 88, 3) := by decide +kernel
theorem own_pd1 : parseMethodDescriptor "(I)Z" = some ⟨[.int], some .boolean⟩ := by decide +kernel
theorem own_d_jdk_43_method_22_4 : decode jdk_43_method_22_code 4 = .ok (.ifCond .ne 5, 3) := by decide +kernel
theorem own_d_jdk_43_method_22_9 : decode jdk_43_method_22_code 9 = .ok (.iload_n 2, 1) := by decide +kernel
theorem own_d_jdk_43_method_22_10 : decode jdk_43_method_22_code 10 = .ok (.iconst 0, 1) := by decide +kernel
theorem own_d_jdk_43_method_22_11 : decode jdk_43_method_22_code 11 = .ok (.invokestatic 92, 3) := by decide +kernel
theorem own_pd2 : parseMethodDescriptor "(II)I" = some ⟨[.int, .int], some .int⟩ := by decide +kernel
theorem own_d_jdk_43_method_22_14 : decode jdk_43_method_22_code 14 = .ok (.istore_n 2, 1) := by decide +kernel
theorem own_d_jdk_43_method_22_15 : decode jdk_43_method_22_code 15 = .ok (.iload_n 3, 1) := by decide +kernel
theorem own_d_jdk_43_method_22_16 : decode jdk_43_method_22_code 16 = .ok (.aload_n 0, 1) := by decide +kernel
theorem own_d_jdk_43_method_22_17 : decode jdk_43_method_22_code 17 = .ok (.arraylength, 1) := by decide +kernel
theorem own_d_jdk_43_method_22_18 : decode jdk_43_method_22_code 18 = .ok (.invokestatic 38, 3) := by decide +kernel
theorem own_d_jdk_43_method_22_21 : decode jdk_43_method_22_code 21 = .ok (.istore_n 3, 1) := by decide +kernel
theorem own_d_jdk_43_method_22_22 : decode jdk_43_method_22_code 22 = .ok (.iload_n 2, 1) := by decide +kernel
theorem own_d_jdk_43_method_22_23 : decode jdk_43_method_22_code 23 = .ok (.iload_n 3, 1) := by decide +kernel
theorem own_d_jdk_43_method_22_24 : decode jdk_43_method_22_code 24 = .ok (.if_icmp .lt 5, 3) := by decide +kernel
theorem own_d_jdk_43_method_22_29 : decode jdk_43_method_22_code 29 = .ok (.aload_n 0, 1) := by decide +kernel
theorem own_d_jdk_43_method_22_30 : decode jdk_43_method_22_code 30 = .ok (.iload_n 1, 1) := by decide +kernel
theorem own_d_jdk_43_method_22_31 : decode jdk_43_method_22_code 31 = .ok (.iload_n 2, 1) := by decide +kernel
theorem own_d_jdk_43_method_22_32 : decode jdk_43_method_22_code 32 = .ok (.iload_n 3, 1) := by decide +kernel
theorem own_d_jdk_43_method_22_33 : decode jdk_43_method_22_code 33 = .ok (.invokestatic 95, 3) := by decide +kernel
theorem own_pd3 : parseMethodDescriptor "([BIII)I" = some ⟨[(.array .byte), .int, .int, .int], some .int⟩ := by decide +kernel
theorem own_d_jdk_43_method_22_36 : decode jdk_43_method_22_code 36 = .ok (.ireturn, 1) := by decide +kernel
theorem own_ef_lix (m : MethodId) (x0 : Addr) (x1 : Int32) : entryFrame m #[(.ref x0), (.int x1), (.int (0 : Int32)), (.int (9 : Int32))] 4 = mkF m 0 #[.val (.ref x0), .val (.int x1), .val (.int (0 : Int32)), .val (.int (9 : Int32))] [] := by first | (simp [entryFrame, mkF, argsToLocals, Value.category]; done) | rfl
def own_Q_lix (Z : State) (b : Addr) (p1 : Int32) (k : ClassId) (h0 : Heap) (n0 : Nat) (v : Option Value) (h : Heap) (L : List Loc) : Prop := v = some (.int (own_ind p1)) ∧ Fr n0 L ∧ h = h0
set_option maxRecDepth 65536 in
set_option maxHeartbeats 40000000 in
theorem own_rm_lix_a (l : Launch) (Z : State) (a0 : Array Value) (hw : ∀ d ∈ tables_1, d.before a0 Z = true) (ws : List Jvm.Cond) (b : Addr) (p1 : Int32) (k : ClassId) (h0 : Heap) (n0 : Nat) (Z0 : n0 ≤ h0.size) (V0 : Arv Z h0 b k .byte (9 : Int32) own_vs (.int 0)) (hp : ¬ (own_can p1 = (0 : Int32))) :
    MetFree l (⟨"java/lang/StringLatin1", "indexOf", "([BIII)I"⟩ : MethodName) (head1 (Jvm.Cond.code (⟨"java/lang/StringLatin1", "indexOf", "([BIII)I"⟩ : MethodName) jdk_43_method_22_code 4 (some .int) :: ws) ({ frames := 1, cells := 0, slots := 0, locals := 17 } : Room)) (fun a U => a = #[(.ref b), (.int p1), (.int (0 : Int32)), (.int (9 : Int32))] ∧ Z.Warmed39 U.vm ∧ U.heap = h0) (fun _ _ _ _ _ => True) (fun _ U o U' => ∃ v L, o = .returned v ∧ own_Q_lix Z b p1 k h0 n0 v U'.heap L ∧ FrameEnd U o U' L ({ frames := 1, cells := 0, slots := 0, locals := 17 } : Room).cells ({ frames := 1, cells := 0, slots := 0, locals := 17 } : Room).slots) := by
  refine MetFree.of_bodySF (plainFor_of_name own_pn1) hisR ?_
  intro p e s m args below meth c s₁ Bd hml0 hP hK
  obtain ⟨rfl, hZ, hh⟩ := hP
  have hx := Bd.exec
  have hby := Bd.bytes
  have hml : c.maxLocals = 4 := hml0
  have hown : s.vm.findClass "java/lang/StringLatin1" = some m.cls := findClass_of_methodNamed Bd.named
  have hnm := (name_of_methodNamed Bd.named Bd.method).1
  have X0 : Stand p l e ({ frames := 1, cells := 0, slots := 0, locals := 17 } : Room) s m #[(.ref b), (.int p1), (.int (0 : Int32)), (.int (9 : Int32))] below meth c s₁ [] 0 0 := Stand.of_body Bd
  have e0 : s₁.heap = h0 := by rw [← hh, Bd.state]; rfl
  have N0 := Fr.nil n0
  have pre0 : ∀ t, Steps p.tables e below (s₁.setTop (mkF m 0 #[.val (.ref b), .val (.int p1), .val (.int (0 : Int32)), .val (.int (9 : Int32))] [])) t → Steps p.tables e below (s₁.setTop (entryFrame m #[(.ref b), (.int p1), (.int (0 : Int32)), (.int (9 : Int32))] 4)) t := fun t k => castTop (own_ef_lix m b p1) k
  obtain ⟨_, _, ⟨T1, L1, k1, n1⟩, -, X1, ⟨Lc1, hQ1, l1, y1, z1⟩, st1⟩ := Jvm.LawKit.callS X0 hx (y := (⟨"java/lang/StringLatin1", "canEncode", "(I)Z"⟩ : MethodName)) hown (mvT hZ (hw _ (List.mem_of_getElem? (i := 48) rfl))) (mvT hZ (hw _ (List.mem_of_getElem? (i := 49) rfl))) (mvT hZ (hw _ (List.mem_of_getElem? (i := 46) rfl))) (mvT hZ (hw _ (List.mem_of_getElem? (i := 50) rfl))) (by decide) (backOf (W := 0) (own_rm_can l Z a0 hw [] p1 h0 n0 Z0) hZ (hw _ (List.mem_of_getElem? (i := 50) rfl)) (hw _ (List.mem_of_getElem? (i := 46) rfl)) (by decide) (by decide)) (g := (mkF m 1 #[.val (.ref b), .val (.int p1), .val (.int (0 : Int32)), .val (.int (9 : Int32))] [(.int p1)])) rfl (by rw [hml]; rfl) (argsL := [(.int p1)]) (rest := []) (lenOf own_pd1 rfl) rfl (by show 2 * 0 + _ ≤ _; exact Nat.le_of_eq rfl) (hb hby own_d_jdk_43_method_22_1) (fun _ _ => ⟨rfl, e0, (by decide : 0 + 0 ≤ _), (by decide : 0 + 0 ≤ _)⟩)
  dsimp only [Pt.U, Pt.locs, Pt.cells, Pt.slots] at X1 l1 y1 z1 st1 hQ1
  subst l1 y1 z1
  obtain ⟨rfl, N1q, e1q⟩ := hQ1
  have N1 := Fr.app N0 N1q
  have Vs1_b : Arv Z T1.heap b k .byte (9 : Int32) own_vs (.int 0) := by rw [e1q]; exact V0
  have Z1 : n0 ≤ T1.heap.size := by rw [e1q]; exact Z0
  obtain ⟨_, _, ⟨T2, L2, k2, n2⟩, -, X2, ⟨Lc2, hQ2, l2, y2, z2⟩, st2⟩ := Jvm.LawKit.callS X1 hx (y := (⟨"java/lang/Math", "max", "(II)I"⟩ : MethodName)) hown (mvT hZ (hw _ (List.mem_of_getElem? (i := 51) rfl))) (mvT hZ (hw _ (List.mem_of_getElem? (i := 52) rfl))) (mvT hZ (hw _ (List.mem_of_getElem? (i := 53) rfl))) (mvT hZ (hw _ (List.mem_of_getElem? (i := 54) rfl))) (by decide) (backOf (W := 0) (own_rm_max l Z a0 hw [] (0 : Int32) (0 : Int32) T1.heap n0 Z1 (by decide)) hZ (hw _ (List.mem_of_getElem? (i := 54) rfl)) (hw _ (List.mem_of_getElem? (i := 53) rfl)) (by decide) (by decide)) (g := (mkF m 11 #[.val (.ref b), .val (.int p1), .val (.int (0 : Int32)), .val (.int (9 : Int32))] [(.int (0 : Int32)), (.int (0 : Int32))])) rfl (by rw [hml]; rfl) (argsL := [(.int (0 : Int32)), (.int (0 : Int32))]) (rest := []) (lenOf own_pd2 rfl) rfl (by show 2 * 0 + _ ≤ _; exact Nat.le_of_eq rfl) (hb hby own_d_jdk_43_method_22_11) (fun _ _ => ⟨rfl, rfl, (by decide : 0 + 0 ≤ _), (by decide : 0 + 0 ≤ _)⟩)
  dsimp only [Pt.U, Pt.locs, Pt.cells, Pt.slots] at X2 l2 y2 z2 st2 hQ2
  subst l2 y2 z2
  obtain ⟨rfl, N2q, e2q⟩ := hQ2
  have N2 := Fr.app N1 N2q
  have Vs2_b : Arv Z T2.heap b k .byte (9 : Int32) own_vs (.int 0) := by rw [e2q]; exact Vs1_b
  have Z2 : n0 ≤ T2.heap.size := by rw [e2q]; exact Z1
  have Vt3 := Vs2_b
  obtain ⟨cl3, Ar3, -, Sz3, Nn3, -, -⟩ := Vt3
  obtain ⟨_, _, ⟨T4, L4, k4, n4⟩, -, X4, ⟨Lc4, hQ4, l4, y4, z4⟩, st4⟩ := Jvm.LawKit.callS X2 hx (y := (⟨"java/lang/Math", "min", "(II)I"⟩ : MethodName)) hown (mvT hZ (hw _ (List.mem_of_getElem? (i := 55) rfl))) (mvT hZ (hw _ (List.mem_of_getElem? (i := 56) rfl))) (mvT hZ (hw _ (List.mem_of_getElem? (i := 53) rfl))) (mvT hZ (hw _ (List.mem_of_getElem? (i := 57) rfl))) (by decide) (backOf (W := 0) (own_rm_min l Z a0 hw [] (9 : Int32) (9 : Int32) T2.heap n0 Z2 (by decide)) hZ (hw _ (List.mem_of_getElem? (i := 57) rfl)) (hw _ (List.mem_of_getElem? (i := 53) rfl)) (by decide) (by decide)) (g := (mkF m 18 #[.val (.ref b), .val (.int p1), .val (.int (0 : Int32)), .val (.int (9 : Int32))] [(.int (9 : Int32)), (.int (9 : Int32))])) rfl (by rw [hml]; rfl) (argsL := [(.int (9 : Int32)), (.int (9 : Int32))]) (rest := []) (lenOf own_pd2 rfl) rfl (by show 2 * 0 + _ ≤ _; exact Nat.le_of_eq rfl) (hb hby own_d_jdk_43_method_22_18) (fun _ _ => ⟨rfl, rfl, (by decide : 0 + 0 ≤ _), (by decide : 0 + 0 ≤ _)⟩)
  dsimp only [Pt.U, Pt.locs, Pt.cells, Pt.slots] at X4 l4 y4 z4 st4 hQ4
  subst l4 y4 z4
  obtain ⟨rfl, N4q, e4q⟩ := hQ4
  have N4 := Fr.app N2 N4q
  have Vs4_b : Arv Z T4.heap b k .byte (9 : Int32) own_vs (.int 0) := by rw [e4q]; exact Vs2_b
  have Z4 : n0 ≤ T4.heap.size := by rw [e4q]; exact Z2
  obtain ⟨_, _, ⟨T5, L5, k5, n5⟩, -, X5, ⟨Lc5, hQ5, l5, y5, z5⟩, st5⟩ := Jvm.LawKit.callS X4 hx (y := (⟨"java/lang/StringLatin1", "indexOfChar", "([BIII)I"⟩ : MethodName)) hown (mvT hZ (hw _ (List.mem_of_getElem? (i := 58) rfl))) (mvT hZ (hw _ (List.mem_of_getElem? (i := 59) rfl))) (mvT hZ (hw _ (List.mem_of_getElem? (i := 46) rfl))) (mvT hZ (hw _ (List.mem_of_getElem? (i := 60) rfl))) (by decide) (backOf (W := 0) (own_rm_chr l Z a0 hw [] b p1 k T4.heap n0 Z4 Vs4_b) hZ (hw _ (List.mem_of_getElem? (i := 60) rfl)) (hw _ (List.mem_of_getElem? (i := 46) rfl)) (by decide) (by decide)) (g := (mkF m 33 #[.val (.ref b), .val (.int p1), .val (.int (0 : Int32)), .val (.int (9 : Int32))] [(.int (9 : Int32)), (.int (0 : Int32)), (.int p1), (.ref b)])) rfl (by rw [hml]; rfl) (argsL := [(.ref b), (.int p1), (.int (0 : Int32)), (.int (9 : Int32))]) (rest := []) (lenOf own_pd3 rfl) rfl (by show 2 * 0 + _ ≤ _; exact Nat.le_of_eq rfl) (hb hby own_d_jdk_43_method_22_33) (fun _ _ => ⟨rfl, rfl, (by decide : 0 + 0 ≤ _), (by decide : 0 + 0 ≤ _)⟩)
  dsimp only [Pt.U, Pt.locs, Pt.cells, Pt.slots] at X5 l5 y5 z5 st5 hQ5
  subst l5 y5 z5
  obtain ⟨rfl, N5q, e5q⟩ := hQ5
  have N5 := Fr.app N4 N5q
  have Vs5_b : Arv Z T5.heap b k .byte (9 : Int32) own_vs (.int 0) := by rw [e5q]; exact Vs4_b
  have Z5 : n0 ≤ T5.heap.size := by rw [e5q]; exact Z4
  obtain ⟨fs, hr, hrun, hended, hW, hsame⟩ := X5.leave (v := some (.int (own_ix (p1.toInt8.toInt32)))) (fun h => by rw [Bd.returns] at h; cases h)
  refine ⟨_, _, pre0 _ ?_, hrun, hended, _, _, rfl, ?_, ⟨_, rfl⟩, hW, hsame.mono (by decide) (by decide)⟩
  · show Steps p.tables e below (s₁.setTop (mkF m 0 #[.val (.ref b), .val (.int p1), .val (.int (0 : Int32)), .val (.int (9 : Int32))] [])) _
    refine XS.iloadN X0.here hx rfl (hb hby own_d_jdk_43_method_22_0) rfl ?_
    show Steps p.tables e below (s₁.setTop (mkF m 1 #[.val (.ref b), .val (.int p1), .val (.int (0 : Int32)), .val (.int (9 : Int32))] [(.int p1)])) _
    refine st1 _ ?_
    show Steps p.tables e below (T1.setTop (mkF m 4 #[.val (.ref b), .val (.int p1), .val (.int (0 : Int32)), .val (.int (9 : Int32))] [(.int (own_can p1))])) _
    refine XS.ifYes X1.here hx rfl (pc0 := 4) (pc' := 9) rfl (hb hby own_d_jdk_43_method_22_4) rfl ((if0 _ _).trans (feq hp).2) (by decide) (by decide) ?_
    show Steps p.tables e below (T1.setTop (mkF m 9 #[.val (.ref b), .val (.int p1), .val (.int (0 : Int32)), .val (.int (9 : Int32))] [])) _
    refine XS.iloadN X1.here hx rfl (hb hby own_d_jdk_43_method_22_9) rfl ?_
    show Steps p.tables e below (T1.setTop (mkF m 10 #[.val (.ref b), .val (.int p1), .val (.int (0 : Int32)), .val (.int (9 : Int32))] [(.int (0 : Int32))])) _
    refine XS.iconst X1.here hx rfl (hb hby own_d_jdk_43_method_22_10) ?_
    show Steps p.tables e below (T1.setTop (mkF m 11 #[.val (.ref b), .val (.int p1), .val (.int (0 : Int32)), .val (.int (9 : Int32))] [(.int (0 : Int32)), (.int (0 : Int32))])) _
    refine st2 _ ?_
    show Steps p.tables e below (T2.setTop (mkF m 14 #[.val (.ref b), .val (.int p1), .val (.int (0 : Int32)), .val (.int (9 : Int32))] [(.int (0 : Int32))])) _
    refine XS.istoreN X2.here hx rfl (hb hby own_d_jdk_43_method_22_14) rfl (l' := #[.val (.ref b), .val (.int p1), .val (.int (0 : Int32)), .val (.int (9 : Int32))]) rfl ?_
    show Steps p.tables e below (T2.setTop (mkF m 15 #[.val (.ref b), .val (.int p1), .val (.int (0 : Int32)), .val (.int (9 : Int32))] [])) _
    refine XS.iloadN X2.here hx rfl (hb hby own_d_jdk_43_method_22_15) rfl ?_
    show Steps p.tables e below (T2.setTop (mkF m 16 #[.val (.ref b), .val (.int p1), .val (.int (0 : Int32)), .val (.int (9 : Int32))] [(.int (9 : Int32))])) _
    refine XS.aloadN X2.here hx rfl (hb hby own_d_jdk_43_method_22_16) rfl rfl ?_
    show Steps p.tables e below (T2.setTop (mkF m 17 #[.val (.ref b), .val (.int p1), .val (.int (0 : Int32)), .val (.int (9 : Int32))] [(.ref b), (.int (9 : Int32))])) _
    refine X2.arraylength hx Ar3.1 (State.isArrayOf_alike hZ.alike Ar3.2.1) (g := (mkF m 17 #[.val (.ref b), .val (.int p1), .val (.int (0 : Int32)), .val (.int (9 : Int32))] [(.ref b), (.int (9 : Int32))])) rfl rfl (hb hby own_d_jdk_43_method_22_17) _ ?_
    rw [len_of Sz3 Nn3]
    show Steps p.tables e below (T2.setTop (mkF m 18 #[.val (.ref b), .val (.int p1), .val (.int (0 : Int32)), .val (.int (9 : Int32))] [(.int (9 : Int32)), (.int (9 : Int32))])) _
    refine st4 _ ?_
    show Steps p.tables e below (T4.setTop (mkF m 21 #[.val (.ref b), .val (.int p1), .val (.int (0 : Int32)), .val (.int (9 : Int32))] [(.int (9 : Int32))])) _
    refine XS.istoreN X4.here hx rfl (hb hby own_d_jdk_43_method_22_21) rfl (l' := #[.val (.ref b), .val (.int p1), .val (.int (0 : Int32)), .val (.int (9 : Int32))]) rfl ?_
    show Steps p.tables e below (T4.setTop (mkF m 22 #[.val (.ref b), .val (.int p1), .val (.int (0 : Int32)), .val (.int (9 : Int32))] [])) _
    refine XS.iloadN X4.here hx rfl (hb hby own_d_jdk_43_method_22_22) rfl ?_
    show Steps p.tables e below (T4.setTop (mkF m 23 #[.val (.ref b), .val (.int p1), .val (.int (0 : Int32)), .val (.int (9 : Int32))] [(.int (0 : Int32))])) _
    refine XS.iloadN X4.here hx rfl (hb hby own_d_jdk_43_method_22_23) rfl ?_
    show Steps p.tables e below (T4.setTop (mkF m 24 #[.val (.ref b), .val (.int p1), .val (.int (0 : Int32)), .val (.int (9 : Int32))] [(.int (9 : Int32)), (.int (0 : Int32))])) _
    refine XS.icmpYes X4.here hx rfl (pc0 := 24) (pc' := 29) rfl (hb hby own_d_jdk_43_method_22_24) rfl (tlt (by decide)).1 (by decide) (by decide) ?_
    show Steps p.tables e below (T4.setTop (mkF m 29 #[.val (.ref b), .val (.int p1), .val (.int (0 : Int32)), .val (.int (9 : Int32))] [])) _
    refine XS.aloadN X4.here hx rfl (hb hby own_d_jdk_43_method_22_29) rfl rfl ?_
    show Steps p.tables e below (T4.setTop (mkF m 30 #[.val (.ref b), .val (.int p1), .val (.int (0 : Int32)), .val (.int (9 : Int32))] [(.ref b)])) _
    refine XS.iloadN X4.here hx rfl (hb hby own_d_jdk_43_method_22_30) rfl ?_
    show Steps p.tables e below (T4.setTop (mkF m 31 #[.val (.ref b), .val (.int p1), .val (.int (0 : Int32)), .val (.int (9 : Int32))] [(.int p1), (.ref b)])) _
    refine XS.iloadN X4.here hx rfl (hb hby own_d_jdk_43_method_22_31) rfl ?_
    show Steps p.tables e below (T4.setTop (mkF m 32 #[.val (.ref b), .val (.int p1), .val (.int (0 : Int32)), .val (.int (9 : Int32))] [(.int (0 : Int32)), (.int p1), (.ref b)])) _
    refine XS.iloadN X4.here hx rfl (hb hby own_d_jdk_43_method_22_32) rfl ?_
    show Steps p.tables e below (T4.setTop (mkF m 33 #[.val (.ref b), .val (.int p1), .val (.int (0 : Int32)), .val (.int (9 : Int32))] [(.int (9 : Int32)), (.int (0 : Int32)), (.int p1), (.ref b)])) _
    refine st5 _ ?_
    show Steps p.tables e below (T5.setTop (mkF m 36 #[.val (.ref b), .val (.int p1), .val (.int (0 : Int32)), .val (.int (9 : Int32))] [(.int (own_ix (p1.toInt8.toInt32)))])) _
    exact retI X5 hx Bd.returns (hb hby own_d_jdk_43_method_22_36) hr
  · show own_Q_lix Z b p1 k h0 n0 _ T5.heap _
    exact ⟨(by rw [own_ind, if_neg hp]), N5, (by rw [e5q, e4q, e2q, e1q])⟩
theorem own_d_jdk_43_method_22_7 : decode jdk_43_method_22_code 7 = .ok (.iconst (-1), 1) := by decide +kernel
theorem own_d_jdk_43_method_22_8 : decode jdk_43_method_22_code 8 = .ok (.ireturn, 1) := by decide +kernel
set_option maxRecDepth 65536 in
set_option maxHeartbeats 40000000 in
theorem own_rm_lix_b (l : Launch) (Z : State) (a0 : Array Value) (hw : ∀ d ∈ tables_1, d.before a0 Z = true) (ws : List Jvm.Cond) (b : Addr) (p1 : Int32) (k : ClassId) (h0 : Heap) (n0 : Nat) (Z0 : n0 ≤ h0.size) (V0 : Arv Z h0 b k .byte (9 : Int32) own_vs (.int 0)) (hp : own_can p1 = (0 : Int32)) :
    MetFree l (⟨"java/lang/StringLatin1", "indexOf", "([BIII)I"⟩ : MethodName) (head1 (Jvm.Cond.code (⟨"java/lang/StringLatin1", "indexOf", "([BIII)I"⟩ : MethodName) jdk_43_method_22_code 4 (some .int) :: ws) ({ frames := 1, cells := 0, slots := 0, locals := 17 } : Room)) (fun a U => a = #[(.ref b), (.int p1), (.int (0 : Int32)), (.int (9 : Int32))] ∧ Z.Warmed39 U.vm ∧ U.heap = h0) (fun _ _ _ _ _ => True) (fun _ U o U' => ∃ v L, o = .returned v ∧ own_Q_lix Z b p1 k h0 n0 v U'.heap L ∧ FrameEnd U o U' L ({ frames := 1, cells := 0, slots := 0, locals := 17 } : Room).cells ({ frames := 1, cells := 0, slots := 0, locals := 17 } : Room).slots) := by
  refine MetFree.of_bodySF (plainFor_of_name own_pn1) hisR ?_
  intro p e s m args below meth c s₁ Bd hml0 hP hK
  obtain ⟨rfl, hZ, hh⟩ := hP
  have hx := Bd.exec
  have hby := Bd.bytes
  have hml : c.maxLocals = 4 := hml0
  have hown : s.vm.findClass "java/lang/StringLatin1" = some m.cls := findClass_of_methodNamed Bd.named
  have hnm := (name_of_methodNamed Bd.named Bd.method).1
  have X0 : Stand p l e ({ frames := 1, cells := 0, slots := 0, locals := 17 } : Room) s m #[(.ref b), (.int p1), (.int (0 : Int32)), (.int (9 : Int32))] below meth c s₁ [] 0 0 := Stand.of_body Bd
  have e0 : s₁.heap = h0 := by rw [← hh, Bd.state]; rfl
  have N0 := Fr.nil n0
  have pre0 : ∀ t, Steps p.tables e below (s₁.setTop (mkF m 0 #[.val (.ref b), .val (.int p1), .val (.int (0 : Int32)), .val (.int (9 : Int32))] [])) t → Steps p.tables e below (s₁.setTop (entryFrame m #[(.ref b), (.int p1), (.int (0 : Int32)), (.int (9 : Int32))] 4)) t := fun t k => castTop (own_ef_lix m b p1) k
  obtain ⟨_, _, ⟨T1, L1, k1, n1⟩, -, X1, ⟨Lc1, hQ1, l1, y1, z1⟩, st1⟩ := Jvm.LawKit.callS X0 hx (y := (⟨"java/lang/StringLatin1", "canEncode", "(I)Z"⟩ : MethodName)) hown (mvT hZ (hw _ (List.mem_of_getElem? (i := 48) rfl))) (mvT hZ (hw _ (List.mem_of_getElem? (i := 49) rfl))) (mvT hZ (hw _ (List.mem_of_getElem? (i := 46) rfl))) (mvT hZ (hw _ (List.mem_of_getElem? (i := 50) rfl))) (by decide) (backOf (W := 0) (own_rm_can l Z a0 hw [] p1 h0 n0 Z0) hZ (hw _ (List.mem_of_getElem? (i := 50) rfl)) (hw _ (List.mem_of_getElem? (i := 46) rfl)) (by decide) (by decide)) (g := (mkF m 1 #[.val (.ref b), .val (.int p1), .val (.int (0 : Int32)), .val (.int (9 : Int32))] [(.int p1)])) rfl (by rw [hml]; rfl) (argsL := [(.int p1)]) (rest := []) (lenOf own_pd1 rfl) rfl (by show 2 * 0 + _ ≤ _; exact Nat.le_of_eq rfl) (hb hby own_d_jdk_43_method_22_1) (fun _ _ => ⟨rfl, e0, (by decide : 0 + 0 ≤ _), (by decide : 0 + 0 ≤ _)⟩)
  dsimp only [Pt.U, Pt.locs, Pt.cells, Pt.slots] at X1 l1 y1 z1 st1 hQ1
  subst l1 y1 z1
  obtain ⟨rfl, N1q, e1q⟩ := hQ1
  have N1 := Fr.app N0 N1q
  have Vs1_b : Arv Z T1.heap b k .byte (9 : Int32) own_vs (.int 0) := by rw [e1q]; exact V0
  have Z1 : n0 ≤ T1.heap.size := by rw [e1q]; exact Z0
  obtain ⟨fs, hr, hrun, hended, hW, hsame⟩ := X1.leave (v := some (.int (-1 : Int32))) (fun h => by rw [Bd.returns] at h; cases h)
  refine ⟨_, _, pre0 _ ?_, hrun, hended, _, _, rfl, ?_, ⟨_, rfl⟩, hW, hsame.mono (by decide) (by decide)⟩
  · show Steps p.tables e below (s₁.setTop (mkF m 0 #[.val (.ref b), .val (.int p1), .val (.int (0 : Int32)), .val (.int (9 : Int32))] [])) _
    refine XS.iloadN X0.here hx rfl (hb hby own_d_jdk_43_method_22_0) rfl ?_
    show Steps p.tables e below (s₁.setTop (mkF m 1 #[.val (.ref b), .val (.int p1), .val (.int (0 : Int32)), .val (.int (9 : Int32))] [(.int p1)])) _
    refine st1 _ ?_
    show Steps p.tables e below (T1.setTop (mkF m 4 #[.val (.ref b), .val (.int p1), .val (.int (0 : Int32)), .val (.int (9 : Int32))] [(.int (own_can p1))])) _
    refine XS.ifNo X1.here hx rfl (hb hby own_d_jdk_43_method_22_4) rfl ((if0 _ _).trans (teq hp).2) ?_
    show Steps p.tables e below (T1.setTop (mkF m 7 #[.val (.ref b), .val (.int p1), .val (.int (0 : Int32)), .val (.int (9 : Int32))] [])) _
    refine XS.iconst X1.here hx rfl (hb hby own_d_jdk_43_method_22_7) ?_
    show Steps p.tables e below (T1.setTop (mkF m 8 #[.val (.ref b), .val (.int p1), .val (.int (0 : Int32)), .val (.int (9 : Int32))] [(.int (-1 : Int32))])) _
    exact retI X1 hx Bd.returns (hb hby own_d_jdk_43_method_22_8) hr
  · show own_Q_lix Z b p1 k h0 n0 _ T1.heap _
    exact ⟨(by rw [own_ind, if_pos hp]), N1, (by rw [e1q])⟩
set_option maxRecDepth 65536 in
set_option maxHeartbeats 40000000 in
theorem own_rm_lix (l : Launch) (Z : State) (a0 : Array Value) (hw : ∀ d ∈ tables_1, d.before a0 Z = true) (ws : List Jvm.Cond) (b : Addr) (p1 : Int32) (k : ClassId) (h0 : Heap) (n0 : Nat) (Z0 : n0 ≤ h0.size) (V0 : Arv Z h0 b k .byte (9 : Int32) own_vs (.int 0)) :
    MetFree l (⟨"java/lang/StringLatin1", "indexOf", "([BIII)I"⟩ : MethodName) (head1 (Jvm.Cond.code (⟨"java/lang/StringLatin1", "indexOf", "([BIII)I"⟩ : MethodName) jdk_43_method_22_code 4 (some .int) :: ws) ({ frames := 1, cells := 0, slots := 0, locals := 17 } : Room)) (fun a U => a = #[(.ref b), (.int p1), (.int (0 : Int32)), (.int (9 : Int32))] ∧ Z.Warmed39 U.vm ∧ U.heap = h0) (fun _ _ _ _ _ => True) (fun _ U o U' => ∃ v L, o = .returned v ∧ own_Q_lix Z b p1 k h0 n0 v U'.heap L ∧ FrameEnd U o U' L ({ frames := 1, cells := 0, slots := 0, locals := 17 } : Room).cells ({ frames := 1, cells := 0, slots := 0, locals := 17 } : Room).slots) := by
  by_cases hp : own_can p1 = (0 : Int32)
  · exact own_rm_lix_b l Z a0 hw ws b p1 k h0 n0 Z0 V0 hp
  · exact own_rm_lix_a l Z a0 hw ws b p1 k h0 n0 Z0 V0 hp
theorem own_d_jdk_42_method_80_0 : decode jdk_42_method_80_code 0 = .ok (.aload_n 0, 1) := by decide +kernel
theorem own_d_jdk_42_method_80_1 : decode jdk_42_method_80_code 1 = .ok (.invokevirtual 492, 3) := by decide +kernel
theorem own_pd4 : parseMethodDescriptor "()Z" = some ⟨[], some .boolean⟩ := by decide +kernel
theorem own_d_jdk_42_method_80_4 : decode jdk_42_method_80_code 4 = .ok (.ifCond .eq 19, 3) := by decide +kernel
theorem own_d_jdk_42_method_80_7 : decode jdk_42_method_80_code 7 = .ok (.aload_n 0, 1) := by decide +kernel
theorem own_d_jdk_42_method_80_8 : decode jdk_42_method_80_code 8 = .ok (.getfield 9, 3) := by decide +kernel
theorem own_d_jdk_42_method_80_11 : decode jdk_42_method_80_code 11 = .ok (.iload_n 1, 1) := by decide +kernel
theorem own_d_jdk_42_method_80_12 : decode jdk_42_method_80_code 12 = .ok (.iload_n 2, 1) := by decide +kernel
theorem own_d_jdk_42_method_80_13 : decode jdk_42_method_80_code 13 = .ok (.aload_n 0, 1) := by decide +kernel
theorem own_d_jdk_42_method_80_14 : decode jdk_42_method_80_code 14 = .ok (.invokevirtual 505, 3) := by decide +kernel
theorem own_pd5 : parseMethodDescriptor "()I" = some ⟨[], some .int⟩ := by decide +kernel
theorem own_d_jdk_42_method_80_17 : decode jdk_42_method_80_code 17 = .ok (.invokestatic 637, 3) := by decide +kernel
theorem own_d_jdk_42_method_80_20 : decode jdk_42_method_80_code 20 = .ok (.goto 16, 3) := by decide +kernel
theorem own_d_jdk_42_method_80_36 : decode jdk_42_method_80_code 36 = .ok (.ireturn, 1) := by decide +kernel
theorem own_ef_ix2 (m : MethodId) (x0 : Addr) (x1 : Int32) : entryFrame m #[(.ref x0), (.int x1), (.int (0 : Int32))] 3 = mkF m 0 #[.val (.ref x0), .val (.int x1), .val (.int (0 : Int32))] [] := by first | (simp [entryFrame, mkF, argsToLocals, Value.category]; done) | rfl
def own_Q_ix2 (Z : State) (a1 : Addr) (p1 : Int32) (b : Addr) (k : ClassId) (w : Int32) (h0 : Heap) (n0 : Nat) (v : Option Value) (h : Heap) (L : List Loc) : Prop := v = some (.int (own_ind p1)) ∧ Fr n0 L ∧ h = h0
set_option maxRecDepth 65536 in
set_option maxHeartbeats 40000000 in
theorem own_rm_ix2 (l : Launch) (Z : State) (a0 : Array Value) (hw : ∀ d ∈ tables_1, d.before a0 Z = true) (ws : List Jvm.Cond) (a1 : Addr) (p1 : Int32) (b : Addr) (k : ClassId) (w : Int32) (h0 : Heap) (n0 : Nat) (Z0 : n0 ≤ h0.size) (O0 : own_St Z h0 a1 b k w) (hw0 : ¬ (w = (0 : Int32))) :
    MetFree l (⟨"java/lang/String", "indexOf", "(II)I"⟩ : MethodName) (head1 (Jvm.Cond.code (⟨"java/lang/String", "indexOf", "(II)I"⟩ : MethodName) jdk_42_method_80_code 3 (some .int) :: ws) ({ frames := 2, cells := 0, slots := 0, locals := 32 } : Room)) (fun a U => a = #[(.ref a1), (.int p1), (.int (0 : Int32))] ∧ Z.Warmed39 U.vm ∧ U.heap = h0) (fun _ _ _ _ _ => True) (fun _ U o U' => ∃ v L, o = .returned v ∧ own_Q_ix2 Z a1 p1 b k w h0 n0 v U'.heap L ∧ FrameEnd U o U' L ({ frames := 2, cells := 0, slots := 0, locals := 32 } : Room).cells ({ frames := 2, cells := 0, slots := 0, locals := 32 } : Room).slots) := by
  refine MetFree.of_bodySF (plainFor_of_name own_pn0) hisR ?_
  intro p e s m args below meth c s₁ Bd hml0 hP hK
  obtain ⟨rfl, hZ, hh⟩ := hP
  have hx := Bd.exec
  have hby := Bd.bytes
  have hml : c.maxLocals = 3 := hml0
  have hown : s.vm.findClass "java/lang/String" = some m.cls := findClass_of_methodNamed Bd.named
  have hnm := (name_of_methodNamed Bd.named Bd.method).1
  have X0 : Stand p l e ({ frames := 2, cells := 0, slots := 0, locals := 32 } : Room) s m #[(.ref a1), (.int p1), (.int (0 : Int32))] below meth c s₁ [] 0 0 := Stand.of_body Bd
  have e0 : s₁.heap = h0 := by rw [← hh, Bd.state]; rfl
  have N0 := Fr.nil n0
  have pre0 : ∀ t, Steps p.tables e below (s₁.setTop (mkF m 0 #[.val (.ref a1), .val (.int p1), .val (.int (0 : Int32))] [])) t → Steps p.tables e below (s₁.setTop (entryFrame m #[(.ref a1), (.int p1), (.int (0 : Int32))] 3)) t := fun t k => castTop (own_ef_ix2 m a1 p1) k
  obtain ⟨E0, F0c, F0v, V0, S0⟩ := O0
  obtain ⟨cq1, kq1, q1a, q1b, q1c⟩ := isOf hZ e0 E0
  obtain ⟨_, _, ⟨T1, L1, k1, n1⟩, -, X1, ⟨Lc1, hQ1, l1, y1, z1⟩, st1⟩ := X0.virtualBack hx (y := (⟨"java/lang/String", "isLatin1", "()Z"⟩ : MethodName)) (z := (⟨"java/lang/String", "isLatin1", "()Z"⟩ : MethodName)) hown (mvT hZ (hw _ (List.mem_of_getElem? (i := 26) rfl))) (mvT hZ (hw _ (List.mem_of_getElem? (i := 27) rfl))) (notFace_of_selects (args := #[]) (mvT hZ (hw _ (List.mem_of_getElem? (i := 29) rfl)))) (mvT hZ (hw _ (List.mem_of_getElem? (i := 29) rfl))) (mvT hZ (hw _ (List.mem_of_getElem? (i := 28) rfl))) (by decide) (backOf (W := 0) (own_rm_lat l Z a0 hw [] a1 b k w h0 n0 Z0 ⟨E0, F0c, F0v, V0, S0⟩ hw0) hZ (hw _ (List.mem_of_getElem? (i := 30) rfl)) (hw _ (List.mem_of_getElem? (i := 9) rfl)) (by decide) (by decide)) q1a q1c (g := (mkF m 1 #[.val (.ref a1), .val (.int p1), .val (.int (0 : Int32))] [(.ref a1)])) rfl (by rw [hml]; rfl) (Steps.refl _) (argsL := []) (rest := []) (lenOf own_pd4 rfl) rfl (by show 2 * 0 + _ ≤ _; exact Nat.le_of_eq rfl) (hb hby own_d_jdk_42_method_80_1) (fun _ _ => ⟨rfl, e0, (by decide : 0 + 0 ≤ _), (by decide : 0 + 0 ≤ _)⟩)
  dsimp only [Pt.U, Pt.locs, Pt.cells, Pt.slots] at X1 l1 y1 z1 st1 hQ1
  subst l1 y1 z1
  obtain ⟨rfl, N1q, e1q⟩ := hQ1
  have N1 := Fr.app N0 N1q
  have E1_a1 : Exa Z T1.heap a1 "java/lang/String" := by rw [e1q]; exact E0
  have Fs1_a1_coder : Fld Z T1.heap a1 "java/lang/String" "coder" "B" (.int (0 : Int32)) := by rw [e1q]; exact F0c
  have Fs1_a1_value : Fld Z T1.heap a1 "java/lang/String" "value" "[B" (.ref b) := by rw [e1q]; exact F0v
  have Vs1_b : Arv Z T1.heap b k .byte (9 : Int32) own_vs (.int 0) := by rw [e1q]; exact V0
  have Ss1_COMPACT_STRINGS : Sta Z T1.heap "java/lang/String" "COMPACT_STRINGS" "Z" (.int w) := by rw [e1q]; exact S0
  have Z1 : n0 ≤ T1.heap.size := by rw [e1q]; exact Z0
  obtain ⟨T2, X2, e2, st2⟩ := getF X1 hx hZ hown (host := "") (Or.inl (hw _ (List.mem_of_getElem? (i := 33) rfl))) Via.refl rfl Fs1_a1_value (g := (mkF m 8 #[.val (.ref a1), .val (.int p1), .val (.int (0 : Int32))] [(.ref a1)])) rfl rfl (hb hby own_d_jdk_42_method_80_8)
  obtain ⟨cq3, kq3, q3a, q3b, q3c⟩ := isOf hZ e2 E1_a1
  obtain ⟨_, _, ⟨T3, L3, k3, n3⟩, -, X3, ⟨Lc3, hQ3, l3, y3, z3⟩, st3⟩ := X2.virtualBack hx (y := (⟨"java/lang/String", "length", "()I"⟩ : MethodName)) (z := (⟨"java/lang/String", "length", "()I"⟩ : MethodName)) hown (mvT hZ (hw _ (List.mem_of_getElem? (i := 34) rfl))) (mvT hZ (hw _ (List.mem_of_getElem? (i := 35) rfl))) (notFace_of_selects (args := #[]) (mvT hZ (hw _ (List.mem_of_getElem? (i := 37) rfl)))) (mvT hZ (hw _ (List.mem_of_getElem? (i := 37) rfl))) (mvT hZ (hw _ (List.mem_of_getElem? (i := 36) rfl))) (by decide) (backOf (W := 3) (own_rm_len l Z a0 hw [] a1 b k w T1.heap n0 Z1 ⟨E1_a1, Fs1_a1_coder, Fs1_a1_value, Vs1_b, Ss1_COMPACT_STRINGS⟩ hw0) hZ (hw _ (List.mem_of_getElem? (i := 38) rfl)) (hw _ (List.mem_of_getElem? (i := 9) rfl)) (by decide) (by decide)) q3a q3c (g := (mkF m 14 #[.val (.ref a1), .val (.int p1), .val (.int (0 : Int32))] [(.ref a1), (.int (0 : Int32)), (.int p1), (.ref b)])) rfl (by rw [hml]; rfl) (Steps.refl _) (argsL := []) (rest := [(.int (0 : Int32)), (.int p1), (.ref b)]) (lenOf own_pd5 rfl) rfl (by show 2 * 0 + _ ≤ _; exact Nat.le_of_eq rfl) (hb hby own_d_jdk_42_method_80_14) (fun _ _ => ⟨rfl, e2, (by decide : 0 + 0 ≤ _), (by decide : 0 + 0 ≤ _)⟩)
  dsimp only [Pt.U, Pt.locs, Pt.cells, Pt.slots] at X3 l3 y3 z3 st3 hQ3
  subst l3 y3 z3
  obtain ⟨rfl, N3q, e3q⟩ := hQ3
  have N3 := Fr.app N1 N3q
  have E3_a1 : Exa Z T3.heap a1 "java/lang/String" := by rw [e3q]; exact E1_a1
  have Fs3_a1_coder : Fld Z T3.heap a1 "java/lang/String" "coder" "B" (.int (0 : Int32)) := by rw [e3q]; exact Fs1_a1_coder
  have Fs3_a1_value : Fld Z T3.heap a1 "java/lang/String" "value" "[B" (.ref b) := by rw [e3q]; exact Fs1_a1_value
  have Vs3_b : Arv Z T3.heap b k .byte (9 : Int32) own_vs (.int 0) := by rw [e3q]; exact Vs1_b
  have Ss3_COMPACT_STRINGS : Sta Z T3.heap "java/lang/String" "COMPACT_STRINGS" "Z" (.int w) := by rw [e3q]; exact Ss1_COMPACT_STRINGS
  have Z3 : n0 ≤ T3.heap.size := by rw [e3q]; exact Z1
  obtain ⟨_, _, ⟨T4, L4, k4, n4⟩, -, X4, ⟨Lc4, hQ4, l4, y4, z4⟩, st4⟩ := Jvm.LawKit.callS X3 hx (y := (⟨"java/lang/StringLatin1", "indexOf", "([BIII)I"⟩ : MethodName)) hown (mvT hZ (hw _ (List.mem_of_getElem? (i := 44) rfl))) (mvT hZ (hw _ (List.mem_of_getElem? (i := 45) rfl))) (mvT hZ (hw _ (List.mem_of_getElem? (i := 46) rfl))) (mvT hZ (hw _ (List.mem_of_getElem? (i := 47) rfl))) (by decide) (backOf (W := 0) (own_rm_lix l Z a0 hw [] b p1 k T3.heap n0 Z3 Vs3_b) hZ (hw _ (List.mem_of_getElem? (i := 47) rfl)) (hw _ (List.mem_of_getElem? (i := 46) rfl)) (by decide) (by decide)) (g := (mkF m 17 #[.val (.ref a1), .val (.int p1), .val (.int (0 : Int32))] [(.int (9 : Int32)), (.int (0 : Int32)), (.int p1), (.ref b)])) rfl (by rw [hml]; rfl) (argsL := [(.ref b), (.int p1), (.int (0 : Int32)), (.int (9 : Int32))]) (rest := []) (lenOf own_pd3 rfl) rfl (by show 2 * 0 + _ ≤ _; exact Nat.le_of_eq rfl) (hb hby own_d_jdk_42_method_80_17) (fun _ _ => ⟨rfl, rfl, (by decide : 0 + 0 ≤ _), (by decide : 0 + 0 ≤ _)⟩)
  dsimp only [Pt.U, Pt.locs, Pt.cells, Pt.slots] at X4 l4 y4 z4 st4 hQ4
  subst l4 y4 z4
  obtain ⟨rfl, N4q, e4q⟩ := hQ4
  have N4 := Fr.app N3 N4q
  have E4_a1 : Exa Z T4.heap a1 "java/lang/String" := by rw [e4q]; exact E3_a1
  have Fs4_a1_coder : Fld Z T4.heap a1 "java/lang/String" "coder" "B" (.int (0 : Int32)) := by rw [e4q]; exact Fs3_a1_coder
  have Fs4_a1_value : Fld Z T4.heap a1 "java/lang/String" "value" "[B" (.ref b) := by rw [e4q]; exact Fs3_a1_value
  have Vs4_b : Arv Z T4.heap b k .byte (9 : Int32) own_vs (.int 0) := by rw [e4q]; exact Vs3_b
  have Ss4_COMPACT_STRINGS : Sta Z T4.heap "java/lang/String" "COMPACT_STRINGS" "Z" (.int w) := by rw [e4q]; exact Ss3_COMPACT_STRINGS
  have Z4 : n0 ≤ T4.heap.size := by rw [e4q]; exact Z3
  obtain ⟨fs, hr, hrun, hended, hW, hsame⟩ := X4.leave (v := some (.int (own_ind p1))) (fun h => by rw [Bd.returns] at h; cases h)
  refine ⟨_, _, pre0 _ ?_, hrun, hended, _, _, rfl, ?_, ⟨_, rfl⟩, hW, hsame.mono (by decide) (by decide)⟩
  · show Steps p.tables e below (s₁.setTop (mkF m 0 #[.val (.ref a1), .val (.int p1), .val (.int (0 : Int32))] [])) _
    refine XS.aloadN X0.here hx rfl (hb hby own_d_jdk_42_method_80_0) rfl rfl ?_
    show Steps p.tables e below (s₁.setTop (mkF m 1 #[.val (.ref a1), .val (.int p1), .val (.int (0 : Int32))] [(.ref a1)])) _
    refine st1.trans ?_
    show Steps p.tables e below (T1.setTop (mkF m 4 #[.val (.ref a1), .val (.int p1), .val (.int (0 : Int32))] [(.int (1 : Int32))])) _
    refine XS.ifNo X1.here hx rfl (hb hby own_d_jdk_42_method_80_4) rfl ((if0 _ _).trans (feq (by decide)).1) ?_
    show Steps p.tables e below (T1.setTop (mkF m 7 #[.val (.ref a1), .val (.int p1), .val (.int (0 : Int32))] [])) _
    refine XS.aloadN X1.here hx rfl (hb hby own_d_jdk_42_method_80_7) rfl rfl ?_
    show Steps p.tables e below (T1.setTop (mkF m 8 #[.val (.ref a1), .val (.int p1), .val (.int (0 : Int32))] [(.ref a1)])) _
    refine st2 _ ?_
    show Steps p.tables e below (T2.setTop (mkF m 11 #[.val (.ref a1), .val (.int p1), .val (.int (0 : Int32))] [(.ref b)])) _
    refine XS.iloadN X2.here hx rfl (hb hby own_d_jdk_42_method_80_11) rfl ?_
    show Steps p.tables e below (T2.setTop (mkF m 12 #[.val (.ref a1), .val (.int p1), .val (.int (0 : Int32))] [(.int p1), (.ref b)])) _
    refine XS.iloadN X2.here hx rfl (hb hby own_d_jdk_42_method_80_12) rfl ?_
    show Steps p.tables e below (T2.setTop (mkF m 13 #[.val (.ref a1), .val (.int p1), .val (.int (0 : Int32))] [(.int (0 : Int32)), (.int p1), (.ref b)])) _
    refine XS.aloadN X2.here hx rfl (hb hby own_d_jdk_42_method_80_13) rfl rfl ?_
    show Steps p.tables e below (T2.setTop (mkF m 14 #[.val (.ref a1), .val (.int p1), .val (.int (0 : Int32))] [(.ref a1), (.int (0 : Int32)), (.int p1), (.ref b)])) _
    refine st3.trans ?_
    show Steps p.tables e below (T3.setTop (mkF m 17 #[.val (.ref a1), .val (.int p1), .val (.int (0 : Int32))] [(.int (9 : Int32)), (.int (0 : Int32)), (.int p1), (.ref b)])) _
    refine st4 _ ?_
    show Steps p.tables e below (T4.setTop (mkF m 20 #[.val (.ref a1), .val (.int p1), .val (.int (0 : Int32))] [(.int (own_ind p1))])) _
    refine XS.goto X4.here hx rfl (pc0 := 20) (pc' := 36) rfl (hb hby own_d_jdk_42_method_80_20) (by decide) (by decide) ?_
    show Steps p.tables e below (T4.setTop (mkF m 36 #[.val (.ref a1), .val (.int p1), .val (.int (0 : Int32))] [(.int (own_ind p1))])) _
    exact retI X4 hx Bd.returns (hb hby own_d_jdk_42_method_80_36) hr
  · show own_Q_ix2 Z a1 p1 b k w h0 n0 _ T4.heap _
    exact ⟨rfl, N4, (by first | rfl | rw [e4q, e3q, e1q])⟩
theorem own_d_jdk_42_method_79_0 : decode jdk_42_method_79_code 0 = .ok (.aload_n 0, 1) := by decide +kernel
theorem own_d_jdk_42_method_79_1 : decode jdk_42_method_79_code 1 = .ok (.iload_n 1, 1) := by decide +kernel
theorem own_d_jdk_42_method_79_2 : decode jdk_42_method_79_code 2 = .ok (.iconst 0, 1) := by decide +kernel
theorem own_d_jdk_42_method_79_3 : decode jdk_42_method_79_code 3 = .ok (.invokevirtual 633, 3) := by decide +kernel
theorem own_d_jdk_42_method_79_6 : decode jdk_42_method_79_code 6 = .ok (.ireturn, 1) := by decide +kernel
theorem own_ef_ix1 (m : MethodId) (x0 : Addr) (x1 : Int32) : entryFrame m #[(.ref x0), (.int x1)] 2 = mkF m 0 #[.val (.ref x0), .val (.int x1)] [] := by first | (simp [entryFrame, mkF, argsToLocals, Value.category]; done) | rfl
def own_Q_ix1 (Z : State) (a1 : Addr) (p1 : Int32) (b : Addr) (k : ClassId) (w : Int32) (h0 : Heap) (n0 : Nat) (v : Option Value) (h : Heap) (L : List Loc) : Prop := v = some (.int (own_ind p1)) ∧ Fr n0 L ∧ h = h0
set_option maxRecDepth 65536 in
set_option maxHeartbeats 40000000 in
theorem own_rm_ix1 (l : Launch) (Z : State) (a0 : Array Value) (hw : ∀ d ∈ tables_1, d.before a0 Z = true) (ws : List Jvm.Cond) (a1 : Addr) (p1 : Int32) (b : Addr) (k : ClassId) (w : Int32) (h0 : Heap) (n0 : Nat) (Z0 : n0 ≤ h0.size) (O0 : own_St Z h0 a1 b k w) (hw0 : ¬ (w = (0 : Int32))) :
    MetFree l (⟨"java/lang/String", "indexOf", "(I)I"⟩ : MethodName) (head1 (Jvm.Cond.code (⟨"java/lang/String", "indexOf", "(I)I"⟩ : MethodName) jdk_42_method_79_code 2 (some .int) :: ws) ({ frames := 3, cells := 0, slots := 0, locals := 46 } : Room)) (fun a U => a = #[(.ref a1), (.int p1)] ∧ Z.Warmed39 U.vm ∧ U.heap = h0) (fun _ _ _ _ _ => True) (fun _ U o U' => ∃ v L, o = .returned v ∧ own_Q_ix1 Z a1 p1 b k w h0 n0 v U'.heap L ∧ FrameEnd U o U' L ({ frames := 3, cells := 0, slots := 0, locals := 46 } : Room).cells ({ frames := 3, cells := 0, slots := 0, locals := 46 } : Room).slots) := by
  refine MetFree.of_bodySF (plainFor_of_name own_pn0) hisR ?_
  intro p e s m args below meth c s₁ Bd hml0 hP hK
  obtain ⟨rfl, hZ, hh⟩ := hP
  have hx := Bd.exec
  have hby := Bd.bytes
  have hml : c.maxLocals = 2 := hml0
  have hown : s.vm.findClass "java/lang/String" = some m.cls := findClass_of_methodNamed Bd.named
  have hnm := (name_of_methodNamed Bd.named Bd.method).1
  have X0 : Stand p l e ({ frames := 3, cells := 0, slots := 0, locals := 46 } : Room) s m #[(.ref a1), (.int p1)] below meth c s₁ [] 0 0 := Stand.of_body Bd
  have e0 : s₁.heap = h0 := by rw [← hh, Bd.state]; rfl
  have N0 := Fr.nil n0
  have pre0 : ∀ t, Steps p.tables e below (s₁.setTop (mkF m 0 #[.val (.ref a1), .val (.int p1)] [])) t → Steps p.tables e below (s₁.setTop (entryFrame m #[(.ref a1), (.int p1)] 2)) t := fun t k => castTop (own_ef_ix1 m a1 p1) k
  obtain ⟨E0, F0c, F0v, V0, S0⟩ := O0
  obtain ⟨cq1, kq1, q1a, q1b, q1c⟩ := isOf hZ e0 E0
  obtain ⟨_, _, ⟨T1, L1, k1, n1⟩, -, X1, ⟨Lc1, hQ1, l1, y1, z1⟩, st1⟩ := X0.virtualBack hx (y := (⟨"java/lang/String", "indexOf", "(II)I"⟩ : MethodName)) (z := (⟨"java/lang/String", "indexOf", "(II)I"⟩ : MethodName)) hown (mvT hZ (hw _ (List.mem_of_getElem? (i := 21) rfl))) (mvT hZ (hw _ (List.mem_of_getElem? (i := 22) rfl))) (notFace_of_selects (args := #[]) (mvT hZ (hw _ (List.mem_of_getElem? (i := 24) rfl)))) (mvT hZ (hw _ (List.mem_of_getElem? (i := 24) rfl))) (mvT hZ (hw _ (List.mem_of_getElem? (i := 23) rfl))) (by decide) (backOf (W := 0) (own_rm_ix2 l Z a0 hw [] a1 p1 b k w h0 n0 Z0 ⟨E0, F0c, F0v, V0, S0⟩ hw0) hZ (hw _ (List.mem_of_getElem? (i := 25) rfl)) (hw _ (List.mem_of_getElem? (i := 9) rfl)) (by decide) (by decide)) q1a q1c (g := (mkF m 3 #[.val (.ref a1), .val (.int p1)] [(.int (0 : Int32)), (.int p1), (.ref a1)])) rfl (by rw [hml]; rfl) (Steps.refl _) (argsL := [(.int p1), (.int (0 : Int32))]) (rest := []) (lenOf own_pd2 rfl) rfl (by show 2 * 0 + _ ≤ _; exact Nat.le_of_eq rfl) (hb hby own_d_jdk_42_method_79_3) (fun _ _ => ⟨rfl, e0, (by decide : 0 + 0 ≤ _), (by decide : 0 + 0 ≤ _)⟩)
  dsimp only [Pt.U, Pt.locs, Pt.cells, Pt.slots] at X1 l1 y1 z1 st1 hQ1
  subst l1 y1 z1
  obtain ⟨rfl, N1q, e1q⟩ := hQ1
  have N1 := Fr.app N0 N1q
  have E1_a1 : Exa Z T1.heap a1 "java/lang/String" := by rw [e1q]; exact E0
  have Fs1_a1_coder : Fld Z T1.heap a1 "java/lang/String" "coder" "B" (.int (0 : Int32)) := by rw [e1q]; exact F0c
  have Fs1_a1_value : Fld Z T1.heap a1 "java/lang/String" "value" "[B" (.ref b) := by rw [e1q]; exact F0v
  have Vs1_b : Arv Z T1.heap b k .byte (9 : Int32) own_vs (.int 0) := by rw [e1q]; exact V0
  have Ss1_COMPACT_STRINGS : Sta Z T1.heap "java/lang/String" "COMPACT_STRINGS" "Z" (.int w) := by rw [e1q]; exact S0
  have Z1 : n0 ≤ T1.heap.size := by rw [e1q]; exact Z0
  obtain ⟨fs, hr, hrun, hended, hW, hsame⟩ := X1.leave (v := some (.int (own_ind p1))) (fun h => by rw [Bd.returns] at h; cases h)
  refine ⟨_, _, pre0 _ ?_, hrun, hended, _, _, rfl, ?_, ⟨_, rfl⟩, hW, hsame.mono (by decide) (by decide)⟩
  · show Steps p.tables e below (s₁.setTop (mkF m 0 #[.val (.ref a1), .val (.int p1)] [])) _
    refine XS.aloadN X0.here hx rfl (hb hby own_d_jdk_42_method_79_0) rfl rfl ?_
    show Steps p.tables e below (s₁.setTop (mkF m 1 #[.val (.ref a1), .val (.int p1)] [(.ref a1)])) _
    refine XS.iloadN X0.here hx rfl (hb hby own_d_jdk_42_method_79_1) rfl ?_
    show Steps p.tables e below (s₁.setTop (mkF m 2 #[.val (.ref a1), .val (.int p1)] [(.int p1), (.ref a1)])) _
    refine XS.iconst X0.here hx rfl (hb hby own_d_jdk_42_method_79_2) ?_
    show Steps p.tables e below (s₁.setTop (mkF m 3 #[.val (.ref a1), .val (.int p1)] [(.int (0 : Int32)), (.int p1), (.ref a1)])) _
    refine st1.trans ?_
    show Steps p.tables e below (T1.setTop (mkF m 6 #[.val (.ref a1), .val (.int p1)] [(.int (own_ind p1))])) _
    exact retI X1 hx Bd.returns (hb hby own_d_jdk_42_method_79_6) hr
  · show own_Q_ix1 Z a1 p1 b k w h0 n0 _ T1.heap _
    exact ⟨rfl, N1, (by first | rfl | rw [e1q])⟩
theorem own_d_method_3_0 : decode method_3_code 0 = .ok (.iload_n 0, 1) := by decide +kernel
theorem own_d_method_3_1 : decode method_3_code 1 = .ok (.istore_n 1, 1) := by decide +kernel
theorem own_d_method_3_2 : decode method_3_code 2 = .ok (.iload_n 1, 1) := by decide +kernel
theorem own_d_method_3_3 : decode method_3_code 3 = .ok (.bipush 31, 2) := by decide +kernel
theorem own_d_method_3_5 : decode method_3_code 5 = .ok (.if_icmp .gt 5, 3) := by decide +kernel
theorem own_d_method_3_10 : decode method_3_code 10 = .ok (.iload_n 1, 1) := by decide +kernel
theorem own_d_method_3_11 : decode method_3_code 11 = .ok (.bipush 33, 2) := by decide +kernel
theorem own_d_method_3_13 : decode method_3_code 13 = .ok (.if_icmp .ne 5, 3) := by decide +kernel
theorem own_d_method_3_16 : decode method_3_code 16 = .ok (.iconst 1, 1) := by decide +kernel
theorem own_d_method_3_17 : decode method_3_code 17 = .ok (.ireturn, 1) := by decide +kernel
theorem own_d_method_3_18 : decode method_3_code 18 = .ok (.iload_n 1, 1) := by decide +kernel
theorem own_d_method_3_19 : decode method_3_code 19 = .ok (.bipush 40, 2) := by decide +kernel
theorem own_d_method_3_21 : decode method_3_code 21 = .ok (.if_icmp .eq 9, 3) := by decide +kernel
theorem own_d_method_3_30 : decode method_3_code 30 = .ok (.iconst 1, 1) := by decide +kernel
theorem own_d_method_3_31 : decode method_3_code 31 = .ok (.ireturn, 1) := by decide +kernel
theorem own_d_method_3_24 : decode method_3_code 24 = .ok (.iload_n 1, 1) := by decide +kernel
theorem own_d_method_3_25 : decode method_3_code 25 = .ok (.bipush 41, 2) := by decide +kernel
theorem own_d_method_3_27 : decode method_3_code 27 = .ok (.if_icmp .ne 5, 3) := by decide +kernel
theorem own_d_method_3_32 : decode method_3_code 32 = .ok (.iload_n 1, 1) := by decide +kernel
theorem own_d_method_3_33 : decode method_3_code 33 = .ok (.bipush 44, 2) := by decide +kernel
theorem own_d_method_3_35 : decode method_3_code 35 = .ok (.if_icmp .ne 5, 3) := by decide +kernel
theorem own_d_method_3_38 : decode method_3_code 38 = .ok (.iconst 1, 1) := by decide +kernel
theorem own_d_method_3_39 : decode method_3_code 39 = .ok (.ireturn, 1) := by decide +kernel
theorem own_d_method_3_40 : decode method_3_code 40 = .ok (.iload_n 1, 1) := by decide +kernel
theorem own_d_method_3_41 : decode method_3_code 41 = .ok (.bipush 60, 2) := by decide +kernel
theorem own_d_method_3_43 : decode method_3_code 43 = .ok (.if_icmp .lt 11, 3) := by decide +kernel
theorem own_d_method_3_54 : decode method_3_code 54 = .ok (.iload_n 1, 1) := by decide +kernel
theorem own_d_method_3_55 : decode method_3_code 55 = .ok (.bipush 92, 2) := by decide +kernel
theorem own_d_method_3_57 : decode method_3_code 57 = .ok (.if_icmp .ne 5, 3) := by decide +kernel
theorem own_d_method_3_60 : decode method_3_code 60 = .ok (.iconst 1, 1) := by decide +kernel
theorem own_d_method_3_61 : decode method_3_code 61 = .ok (.ireturn, 1) := by decide +kernel
theorem own_d_method_3_62 : decode method_3_code 62 = .ok (.iload_n 1, 1) := by decide +kernel
theorem own_d_method_3_63 : decode method_3_code 63 = .ok (.bipush 126, 2) := by decide +kernel
theorem own_d_method_3_65 : decode method_3_code 65 = .ok (.if_icmp .eq 9, 3) := by decide +kernel
theorem own_d_method_3_74 : decode method_3_code 74 = .ok (.iconst 1, 1) := by decide +kernel
theorem own_d_method_3_75 : decode method_3_code 75 = .ok (.ireturn, 1) := by decide +kernel
theorem own_d_method_3_68 : decode method_3_code 68 = .ok (.iload_n 1, 1) := by decide +kernel
theorem own_d_method_3_69 : decode method_3_code 69 = .ok (.bipush 127, 2) := by decide +kernel
theorem own_d_method_3_71 : decode method_3_code 71 = .ok (.if_icmp .ne 5, 3) := by decide +kernel
theorem own_d_method_3_76 : decode method_3_code 76 = .ok (.iconst 0, 1) := by decide +kernel
theorem own_d_method_3_77 : decode method_3_code 77 = .ok (.ireturn, 1) := by decide +kernel
theorem own_d_method_3_46 : decode method_3_code 46 = .ok (.iload_n 1, 1) := by decide +kernel
theorem own_d_method_3_47 : decode method_3_code 47 = .ok (.bipush 62, 2) := by decide +kernel
theorem own_d_method_3_49 : decode method_3_code 49 = .ok (.if_icmp .gt 5, 3) := by decide +kernel
theorem own_d_method_3_52 : decode method_3_code 52 = .ok (.iconst 1, 1) := by decide +kernel
theorem own_d_method_3_53 : decode method_3_code 53 = .ok (.ireturn, 1) := by decide +kernel
theorem own_d_method_3_8 : decode method_3_code 8 = .ok (.iconst 1, 1) := by decide +kernel
theorem own_d_method_3_9 : decode method_3_code 9 = .ok (.ireturn, 1) := by decide +kernel
theorem own_pn2 : plainName "com/example/signpost/signpost/model/AttributeSyntaxIsReservedPinLaw" = true := by first | (simp [plainName, overriddenIn]; done) | decide +kernel
theorem own_ef_exp (m : MethodId) (x0 : Int32) : entryFrame m #[(.int x0)] 2 = mkF m 0 #[.val (.int x0), .unset] [] := by first | (simp [entryFrame, mkF, argsToLocals, Value.category]; done) | rfl
def own_Q_exp (Z : State) (p1 : Int32)  (h0 : Heap) (n0 : Nat) (v : Option Value) (h : Heap) (L : List Loc) : Prop := v = some (.int (own_rsv p1)) ∧ Fr n0 L ∧ h = h0
set_option maxRecDepth 65536 in
set_option maxHeartbeats 40000000 in
theorem own_rm_exp (l : Launch) (Z : State) (a0 : Array Value) (hw : ∀ d ∈ tables_1, d.before a0 Z = true) (ws : List Jvm.Cond) (p1 : Int32)  (h0 : Heap) (n0 : Nat) (Z0 : n0 ≤ h0.size)  :
    MetFree l (⟨"com/example/signpost/signpost/model/AttributeSyntaxIsReservedPinLaw", "expected", "(C)Z"⟩ : MethodName) (head1 (Jvm.Cond.code (⟨"com/example/signpost/signpost/model/AttributeSyntaxIsReservedPinLaw", "expected", "(C)Z"⟩ : MethodName) method_3_code 2 (some .boolean) :: ws) ({ frames := 0, cells := 0, slots := 0, locals := 0 } : Room)) (fun a U => a = #[(.int p1)] ∧ Z.Warmed39 U.vm ∧ U.heap = h0) (fun _ _ _ _ _ => True) (fun _ U o U' => ∃ v L, o = .returned v ∧ own_Q_exp Z p1  h0 n0 v U'.heap L ∧ FrameEnd U o U' L ({ frames := 0, cells := 0, slots := 0, locals := 0 } : Room).cells ({ frames := 0, cells := 0, slots := 0, locals := 0 } : Room).slots) := by
  refine MetFree.of_bodySF (plainFor_of_name own_pn2) hisR ?_
  intro p e s m args below meth c s₁ Bd hml0 hP hK
  obtain ⟨rfl, hZ, hh⟩ := hP
  have hx := Bd.exec
  have hby := Bd.bytes
  have hml : c.maxLocals = 2 := hml0
  have hown : s.vm.findClass "com/example/signpost/signpost/model/AttributeSyntaxIsReservedPinLaw" = some m.cls := findClass_of_methodNamed Bd.named
  have hnm := (name_of_methodNamed Bd.named Bd.method).1
  have X0 : Stand p l e ({ frames := 0, cells := 0, slots := 0, locals := 0 } : Room) s m #[(.int p1)] below meth c s₁ [] 0 0 := Stand.of_body Bd
  have e0 : s₁.heap = h0 := by rw [← hh, Bd.state]; rfl
  have N0 := Fr.nil n0
  have pre0 : ∀ t, Steps p.tables e below (s₁.setTop (mkF m 0 #[.val (.int p1), .unset] [])) t → Steps p.tables e below (s₁.setTop (entryFrame m #[(.int p1)] 2)) t := fun t k => castTop (own_ef_exp m p1) k
  obtain ⟨r0, hr0⟩ : ∃ z : Int32, z = own_rsv p1 := ⟨_, rfl⟩
  obtain ⟨fs, hr, hrun, hended, hW, hsame⟩ := X0.leave (v := some (.int r0)) (fun h => by rw [Bd.returns] at h; cases h)
  refine ⟨_, _, pre0 _ ?_, hrun, hended, _, _, rfl, ?_, ⟨_, rfl⟩, hW, hsame.mono (by decide) (by decide)⟩
  · show Steps p.tables e below (s₁.setTop (mkF m 0 #[.val (.int p1), .unset] [])) _
    refine XS.iloadN X0.here hx rfl (hb hby own_d_method_3_0) rfl ?_
    show Steps p.tables e below (s₁.setTop (mkF m 1 #[.val (.int p1), .unset] [(.int p1)])) _
    refine XS.istoreN X0.here hx rfl (hb hby own_d_method_3_1) rfl (l' := #[.val (.int p1), .val (.int p1)]) rfl ?_
    show Steps p.tables e below (s₁.setTop (mkF m 2 #[.val (.int p1), .val (.int p1)] [])) _
    refine XS.iloadN X0.here hx rfl (hb hby own_d_method_3_2) rfl ?_
    show Steps p.tables e below (s₁.setTop (mkF m 3 #[.val (.int p1), .val (.int p1)] [(.int p1)])) _
    refine XS.bipush X0.here hx rfl (hb hby own_d_method_3_3) ?_
    by_cases hc5 : (31 : Int32) < p1
    · show Steps p.tables e below (s₁.setTop (mkF m 5 #[.val (.int p1), .val (.int p1)] [(.int (31 : Int32)), (.int p1)])) _
      refine XS.icmpYes X0.here hx rfl (pc0 := 5) (pc' := 10) rfl (hb hby own_d_method_3_5) rfl (tlt hc5).2.2.1 (by decide) (by decide) ?_
      show Steps p.tables e below (s₁.setTop (mkF m 10 #[.val (.int p1), .val (.int p1)] [])) _
      refine XS.iloadN X0.here hx rfl (hb hby own_d_method_3_10) rfl ?_
      show Steps p.tables e below (s₁.setTop (mkF m 11 #[.val (.int p1), .val (.int p1)] [(.int p1)])) _
      refine XS.bipush X0.here hx rfl (hb hby own_d_method_3_11) ?_
      by_cases hc13 : p1 = (33 : Int32)
      · show Steps p.tables e below (s₁.setTop (mkF m 13 #[.val (.int p1), .val (.int p1)] [(.int (33 : Int32)), (.int p1)])) _
        refine XS.icmpNo X0.here hx rfl (hb hby own_d_method_3_13) rfl (teq hc13).2 ?_
        show Steps p.tables e below (s₁.setTop (mkF m 16 #[.val (.int p1), .val (.int p1)] [])) _
        refine XS.iconst X0.here hx rfl (hb hby own_d_method_3_16) ?_
        have hv : r0 = (1 : Int32) := by rw [hr0]; simp only [Int32.lt_iff_toInt_lt, ← Int32.toInt_inj, Int32.reduceToInt] at hc5 hc13; exact own_rsv_yes (by omega)
        rw [hv] at hr
        show Steps p.tables e below (s₁.setTop (mkF m 17 #[.val (.int p1), .val (.int p1)] [(.int (1 : Int32))])) _
        exact retN X0 hx (t := .boolean) Bd.returns (by simp) (hb hby own_d_method_3_17) hr
      · show Steps p.tables e below (s₁.setTop (mkF m 13 #[.val (.int p1), .val (.int p1)] [(.int (33 : Int32)), (.int p1)])) _
        refine XS.icmpYes X0.here hx rfl (pc0 := 13) (pc' := 18) rfl (hb hby own_d_method_3_13) rfl (feq hc13).2 (by decide) (by decide) ?_
        show Steps p.tables e below (s₁.setTop (mkF m 18 #[.val (.int p1), .val (.int p1)] [])) _
        refine XS.iloadN X0.here hx rfl (hb hby own_d_method_3_18) rfl ?_
        show Steps p.tables e below (s₁.setTop (mkF m 19 #[.val (.int p1), .val (.int p1)] [(.int p1)])) _
        refine XS.bipush X0.here hx rfl (hb hby own_d_method_3_19) ?_
        by_cases hc21 : p1 = (40 : Int32)
        · show Steps p.tables e below (s₁.setTop (mkF m 21 #[.val (.int p1), .val (.int p1)] [(.int (40 : Int32)), (.int p1)])) _
          refine XS.icmpYes X0.here hx rfl (pc0 := 21) (pc' := 30) rfl (hb hby own_d_method_3_21) rfl (teq hc21).1 (by decide) (by decide) ?_
          show Steps p.tables e below (s₁.setTop (mkF m 30 #[.val (.int p1), .val (.int p1)] [])) _
          refine XS.iconst X0.here hx rfl (hb hby own_d_method_3_30) ?_
          have hv : r0 = (1 : Int32) := by rw [hr0]; simp only [Int32.lt_iff_toInt_lt, ← Int32.toInt_inj, Int32.reduceToInt] at hc5 hc13 hc21; exact own_rsv_yes (by omega)
          rw [hv] at hr
          show Steps p.tables e below (s₁.setTop (mkF m 31 #[.val (.int p1), .val (.int p1)] [(.int (1 : Int32))])) _
          exact retN X0 hx (t := .boolean) Bd.returns (by simp) (hb hby own_d_method_3_31) hr
        · show Steps p.tables e below (s₁.setTop (mkF m 21 #[.val (.int p1), .val (.int p1)] [(.int (40 : Int32)), (.int p1)])) _
          refine XS.icmpNo X0.here hx rfl (hb hby own_d_method_3_21) rfl (feq hc21).1 ?_
          show Steps p.tables e below (s₁.setTop (mkF m 24 #[.val (.int p1), .val (.int p1)] [])) _
          refine XS.iloadN X0.here hx rfl (hb hby own_d_method_3_24) rfl ?_
          show Steps p.tables e below (s₁.setTop (mkF m 25 #[.val (.int p1), .val (.int p1)] [(.int p1)])) _
          refine XS.bipush X0.here hx rfl (hb hby own_d_method_3_25) ?_
          by_cases hc27 : p1 = (41 : Int32)
          · show Steps p.tables e below (s₁.setTop (mkF m 27 #[.val (.int p1), .val (.int p1)] [(.int (41 : Int32)), (.int p1)])) _
            refine XS.icmpNo X0.here hx rfl (hb hby own_d_method_3_27) rfl (teq hc27).2 ?_
            show Steps p.tables e below (s₁.setTop (mkF m 30 #[.val (.int p1), .val (.int p1)] [])) _
            refine XS.iconst X0.here hx rfl (hb hby own_d_method_3_30) ?_
            have hv : r0 = (1 : Int32) := by rw [hr0]; simp only [Int32.lt_iff_toInt_lt, ← Int32.toInt_inj, Int32.reduceToInt] at hc5 hc13 hc21 hc27; exact own_rsv_yes (by omega)
            rw [hv] at hr
            show Steps p.tables e below (s₁.setTop (mkF m 31 #[.val (.int p1), .val (.int p1)] [(.int (1 : Int32))])) _
            exact retN X0 hx (t := .boolean) Bd.returns (by simp) (hb hby own_d_method_3_31) hr
          · show Steps p.tables e below (s₁.setTop (mkF m 27 #[.val (.int p1), .val (.int p1)] [(.int (41 : Int32)), (.int p1)])) _
            refine XS.icmpYes X0.here hx rfl (pc0 := 27) (pc' := 32) rfl (hb hby own_d_method_3_27) rfl (feq hc27).2 (by decide) (by decide) ?_
            show Steps p.tables e below (s₁.setTop (mkF m 32 #[.val (.int p1), .val (.int p1)] [])) _
            refine XS.iloadN X0.here hx rfl (hb hby own_d_method_3_32) rfl ?_
            show Steps p.tables e below (s₁.setTop (mkF m 33 #[.val (.int p1), .val (.int p1)] [(.int p1)])) _
            refine XS.bipush X0.here hx rfl (hb hby own_d_method_3_33) ?_
            by_cases hc35 : p1 = (44 : Int32)
            · show Steps p.tables e below (s₁.setTop (mkF m 35 #[.val (.int p1), .val (.int p1)] [(.int (44 : Int32)), (.int p1)])) _
              refine XS.icmpNo X0.here hx rfl (hb hby own_d_method_3_35) rfl (teq hc35).2 ?_
              show Steps p.tables e below (s₁.setTop (mkF m 38 #[.val (.int p1), .val (.int p1)] [])) _
              refine XS.iconst X0.here hx rfl (hb hby own_d_method_3_38) ?_
              have hv : r0 = (1 : Int32) := by rw [hr0]; simp only [Int32.lt_iff_toInt_lt, ← Int32.toInt_inj, Int32.reduceToInt] at hc5 hc13 hc21 hc27 hc35; exact own_rsv_yes (by omega)
              rw [hv] at hr
              show Steps p.tables e below (s₁.setTop (mkF m 39 #[.val (.int p1), .val (.int p1)] [(.int (1 : Int32))])) _
              exact retN X0 hx (t := .boolean) Bd.returns (by simp) (hb hby own_d_method_3_39) hr
            · show Steps p.tables e below (s₁.setTop (mkF m 35 #[.val (.int p1), .val (.int p1)] [(.int (44 : Int32)), (.int p1)])) _
              refine XS.icmpYes X0.here hx rfl (pc0 := 35) (pc' := 40) rfl (hb hby own_d_method_3_35) rfl (feq hc35).2 (by decide) (by decide) ?_
              show Steps p.tables e below (s₁.setTop (mkF m 40 #[.val (.int p1), .val (.int p1)] [])) _
              refine XS.iloadN X0.here hx rfl (hb hby own_d_method_3_40) rfl ?_
              show Steps p.tables e below (s₁.setTop (mkF m 41 #[.val (.int p1), .val (.int p1)] [(.int p1)])) _
              refine XS.bipush X0.here hx rfl (hb hby own_d_method_3_41) ?_
              by_cases hc43 : p1 < (60 : Int32)
              · show Steps p.tables e below (s₁.setTop (mkF m 43 #[.val (.int p1), .val (.int p1)] [(.int (60 : Int32)), (.int p1)])) _
                refine XS.icmpYes X0.here hx rfl (pc0 := 43) (pc' := 54) rfl (hb hby own_d_method_3_43) rfl (tlt hc43).1 (by decide) (by decide) ?_
                show Steps p.tables e below (s₁.setTop (mkF m 54 #[.val (.int p1), .val (.int p1)] [])) _
                refine XS.iloadN X0.here hx rfl (hb hby own_d_method_3_54) rfl ?_
                show Steps p.tables e below (s₁.setTop (mkF m 55 #[.val (.int p1), .val (.int p1)] [(.int p1)])) _
                refine XS.bipush X0.here hx rfl (hb hby own_d_method_3_55) ?_
                by_cases hc57 : p1 = (92 : Int32)
                · show Steps p.tables e below (s₁.setTop (mkF m 57 #[.val (.int p1), .val (.int p1)] [(.int (92 : Int32)), (.int p1)])) _
                  refine XS.icmpNo X0.here hx rfl (hb hby own_d_method_3_57) rfl (teq hc57).2 ?_
                  show Steps p.tables e below (s₁.setTop (mkF m 60 #[.val (.int p1), .val (.int p1)] [])) _
                  refine XS.iconst X0.here hx rfl (hb hby own_d_method_3_60) ?_
                  have hv : r0 = (1 : Int32) := by rw [hr0]; simp only [Int32.lt_iff_toInt_lt, ← Int32.toInt_inj, Int32.reduceToInt] at hc5 hc13 hc21 hc27 hc35 hc43 hc57; exact own_rsv_yes (by omega)
                  rw [hv] at hr
                  show Steps p.tables e below (s₁.setTop (mkF m 61 #[.val (.int p1), .val (.int p1)] [(.int (1 : Int32))])) _
                  exact retN X0 hx (t := .boolean) Bd.returns (by simp) (hb hby own_d_method_3_61) hr
                · show Steps p.tables e below (s₁.setTop (mkF m 57 #[.val (.int p1), .val (.int p1)] [(.int (92 : Int32)), (.int p1)])) _
                  refine XS.icmpYes X0.here hx rfl (pc0 := 57) (pc' := 62) rfl (hb hby own_d_method_3_57) rfl (feq hc57).2 (by decide) (by decide) ?_
                  show Steps p.tables e below (s₁.setTop (mkF m 62 #[.val (.int p1), .val (.int p1)] [])) _
                  refine XS.iloadN X0.here hx rfl (hb hby own_d_method_3_62) rfl ?_
                  show Steps p.tables e below (s₁.setTop (mkF m 63 #[.val (.int p1), .val (.int p1)] [(.int p1)])) _
                  refine XS.bipush X0.here hx rfl (hb hby own_d_method_3_63) ?_
                  by_cases hc65 : p1 = (126 : Int32)
                  · show Steps p.tables e below (s₁.setTop (mkF m 65 #[.val (.int p1), .val (.int p1)] [(.int (126 : Int32)), (.int p1)])) _
                    refine XS.icmpYes X0.here hx rfl (pc0 := 65) (pc' := 74) rfl (hb hby own_d_method_3_65) rfl (teq hc65).1 (by decide) (by decide) ?_
                    show Steps p.tables e below (s₁.setTop (mkF m 74 #[.val (.int p1), .val (.int p1)] [])) _
                    refine XS.iconst X0.here hx rfl (hb hby own_d_method_3_74) ?_
                    have hv : r0 = (1 : Int32) := by rw [hr0]; simp only [Int32.lt_iff_toInt_lt, ← Int32.toInt_inj, Int32.reduceToInt] at hc5 hc13 hc21 hc27 hc35 hc43 hc57 hc65; exact own_rsv_yes (by omega)
                    rw [hv] at hr
                    show Steps p.tables e below (s₁.setTop (mkF m 75 #[.val (.int p1), .val (.int p1)] [(.int (1 : Int32))])) _
                    exact retN X0 hx (t := .boolean) Bd.returns (by simp) (hb hby own_d_method_3_75) hr
                  · show Steps p.tables e below (s₁.setTop (mkF m 65 #[.val (.int p1), .val (.int p1)] [(.int (126 : Int32)), (.int p1)])) _
                    refine XS.icmpNo X0.here hx rfl (hb hby own_d_method_3_65) rfl (feq hc65).1 ?_
                    show Steps p.tables e below (s₁.setTop (mkF m 68 #[.val (.int p1), .val (.int p1)] [])) _
                    refine XS.iloadN X0.here hx rfl (hb hby own_d_method_3_68) rfl ?_
                    show Steps p.tables e below (s₁.setTop (mkF m 69 #[.val (.int p1), .val (.int p1)] [(.int p1)])) _
                    refine XS.bipush X0.here hx rfl (hb hby own_d_method_3_69) ?_
                    by_cases hc71 : p1 = (127 : Int32)
                    · show Steps p.tables e below (s₁.setTop (mkF m 71 #[.val (.int p1), .val (.int p1)] [(.int (127 : Int32)), (.int p1)])) _
                      refine XS.icmpNo X0.here hx rfl (hb hby own_d_method_3_71) rfl (teq hc71).2 ?_
                      show Steps p.tables e below (s₁.setTop (mkF m 74 #[.val (.int p1), .val (.int p1)] [])) _
                      refine XS.iconst X0.here hx rfl (hb hby own_d_method_3_74) ?_
                      have hv : r0 = (1 : Int32) := by rw [hr0]; simp only [Int32.lt_iff_toInt_lt, ← Int32.toInt_inj, Int32.reduceToInt] at hc5 hc13 hc21 hc27 hc35 hc43 hc57 hc65 hc71; exact own_rsv_yes (by omega)
                      rw [hv] at hr
                      show Steps p.tables e below (s₁.setTop (mkF m 75 #[.val (.int p1), .val (.int p1)] [(.int (1 : Int32))])) _
                      exact retN X0 hx (t := .boolean) Bd.returns (by simp) (hb hby own_d_method_3_75) hr
                    · show Steps p.tables e below (s₁.setTop (mkF m 71 #[.val (.int p1), .val (.int p1)] [(.int (127 : Int32)), (.int p1)])) _
                      refine XS.icmpYes X0.here hx rfl (pc0 := 71) (pc' := 76) rfl (hb hby own_d_method_3_71) rfl (feq hc71).2 (by decide) (by decide) ?_
                      show Steps p.tables e below (s₁.setTop (mkF m 76 #[.val (.int p1), .val (.int p1)] [])) _
                      refine XS.iconst X0.here hx rfl (hb hby own_d_method_3_76) ?_
                      have hv : r0 = (0 : Int32) := by rw [hr0]; simp only [Int32.lt_iff_toInt_lt, ← Int32.toInt_inj, Int32.reduceToInt] at hc5 hc13 hc21 hc27 hc35 hc43 hc57 hc65 hc71; exact own_rsv_no (by omega)
                      rw [hv] at hr
                      show Steps p.tables e below (s₁.setTop (mkF m 77 #[.val (.int p1), .val (.int p1)] [(.int (0 : Int32))])) _
                      exact retN X0 hx (t := .boolean) Bd.returns (by simp) (hb hby own_d_method_3_77) hr
              · show Steps p.tables e below (s₁.setTop (mkF m 43 #[.val (.int p1), .val (.int p1)] [(.int (60 : Int32)), (.int p1)])) _
                refine XS.icmpNo X0.here hx rfl (hb hby own_d_method_3_43) rfl (flt hc43).1 ?_
                show Steps p.tables e below (s₁.setTop (mkF m 46 #[.val (.int p1), .val (.int p1)] [])) _
                refine XS.iloadN X0.here hx rfl (hb hby own_d_method_3_46) rfl ?_
                show Steps p.tables e below (s₁.setTop (mkF m 47 #[.val (.int p1), .val (.int p1)] [(.int p1)])) _
                refine XS.bipush X0.here hx rfl (hb hby own_d_method_3_47) ?_
                by_cases hc49 : (62 : Int32) < p1
                · show Steps p.tables e below (s₁.setTop (mkF m 49 #[.val (.int p1), .val (.int p1)] [(.int (62 : Int32)), (.int p1)])) _
                  refine XS.icmpYes X0.here hx rfl (pc0 := 49) (pc' := 54) rfl (hb hby own_d_method_3_49) rfl (tlt hc49).2.2.1 (by decide) (by decide) ?_
                  show Steps p.tables e below (s₁.setTop (mkF m 54 #[.val (.int p1), .val (.int p1)] [])) _
                  refine XS.iloadN X0.here hx rfl (hb hby own_d_method_3_54) rfl ?_
                  show Steps p.tables e below (s₁.setTop (mkF m 55 #[.val (.int p1), .val (.int p1)] [(.int p1)])) _
                  refine XS.bipush X0.here hx rfl (hb hby own_d_method_3_55) ?_
                  by_cases hc57 : p1 = (92 : Int32)
                  · show Steps p.tables e below (s₁.setTop (mkF m 57 #[.val (.int p1), .val (.int p1)] [(.int (92 : Int32)), (.int p1)])) _
                    refine XS.icmpNo X0.here hx rfl (hb hby own_d_method_3_57) rfl (teq hc57).2 ?_
                    show Steps p.tables e below (s₁.setTop (mkF m 60 #[.val (.int p1), .val (.int p1)] [])) _
                    refine XS.iconst X0.here hx rfl (hb hby own_d_method_3_60) ?_
                    have hv : r0 = (1 : Int32) := by rw [hr0]; simp only [Int32.lt_iff_toInt_lt, ← Int32.toInt_inj, Int32.reduceToInt] at hc5 hc13 hc21 hc27 hc35 hc43 hc49 hc57; exact own_rsv_yes (by omega)
                    rw [hv] at hr
                    show Steps p.tables e below (s₁.setTop (mkF m 61 #[.val (.int p1), .val (.int p1)] [(.int (1 : Int32))])) _
                    exact retN X0 hx (t := .boolean) Bd.returns (by simp) (hb hby own_d_method_3_61) hr
                  · show Steps p.tables e below (s₁.setTop (mkF m 57 #[.val (.int p1), .val (.int p1)] [(.int (92 : Int32)), (.int p1)])) _
                    refine XS.icmpYes X0.here hx rfl (pc0 := 57) (pc' := 62) rfl (hb hby own_d_method_3_57) rfl (feq hc57).2 (by decide) (by decide) ?_
                    show Steps p.tables e below (s₁.setTop (mkF m 62 #[.val (.int p1), .val (.int p1)] [])) _
                    refine XS.iloadN X0.here hx rfl (hb hby own_d_method_3_62) rfl ?_
                    show Steps p.tables e below (s₁.setTop (mkF m 63 #[.val (.int p1), .val (.int p1)] [(.int p1)])) _
                    refine XS.bipush X0.here hx rfl (hb hby own_d_method_3_63) ?_
                    by_cases hc65 : p1 = (126 : Int32)
                    · show Steps p.tables e below (s₁.setTop (mkF m 65 #[.val (.int p1), .val (.int p1)] [(.int (126 : Int32)), (.int p1)])) _
                      refine XS.icmpYes X0.here hx rfl (pc0 := 65) (pc' := 74) rfl (hb hby own_d_method_3_65) rfl (teq hc65).1 (by decide) (by decide) ?_
                      show Steps p.tables e below (s₁.setTop (mkF m 74 #[.val (.int p1), .val (.int p1)] [])) _
                      refine XS.iconst X0.here hx rfl (hb hby own_d_method_3_74) ?_
                      have hv : r0 = (1 : Int32) := by rw [hr0]; simp only [Int32.lt_iff_toInt_lt, ← Int32.toInt_inj, Int32.reduceToInt] at hc5 hc13 hc21 hc27 hc35 hc43 hc49 hc57 hc65; exact own_rsv_yes (by omega)
                      rw [hv] at hr
                      show Steps p.tables e below (s₁.setTop (mkF m 75 #[.val (.int p1), .val (.int p1)] [(.int (1 : Int32))])) _
                      exact retN X0 hx (t := .boolean) Bd.returns (by simp) (hb hby own_d_method_3_75) hr
                    · show Steps p.tables e below (s₁.setTop (mkF m 65 #[.val (.int p1), .val (.int p1)] [(.int (126 : Int32)), (.int p1)])) _
                      refine XS.icmpNo X0.here hx rfl (hb hby own_d_method_3_65) rfl (feq hc65).1 ?_
                      show Steps p.tables e below (s₁.setTop (mkF m 68 #[.val (.int p1), .val (.int p1)] [])) _
                      refine XS.iloadN X0.here hx rfl (hb hby own_d_method_3_68) rfl ?_
                      show Steps p.tables e below (s₁.setTop (mkF m 69 #[.val (.int p1), .val (.int p1)] [(.int p1)])) _
                      refine XS.bipush X0.here hx rfl (hb hby own_d_method_3_69) ?_
                      by_cases hc71 : p1 = (127 : Int32)
                      · show Steps p.tables e below (s₁.setTop (mkF m 71 #[.val (.int p1), .val (.int p1)] [(.int (127 : Int32)), (.int p1)])) _
                        refine XS.icmpNo X0.here hx rfl (hb hby own_d_method_3_71) rfl (teq hc71).2 ?_
                        show Steps p.tables e below (s₁.setTop (mkF m 74 #[.val (.int p1), .val (.int p1)] [])) _
                        refine XS.iconst X0.here hx rfl (hb hby own_d_method_3_74) ?_
                        have hv : r0 = (1 : Int32) := by rw [hr0]; simp only [Int32.lt_iff_toInt_lt, ← Int32.toInt_inj, Int32.reduceToInt] at hc5 hc13 hc21 hc27 hc35 hc43 hc49 hc57 hc65 hc71; exact own_rsv_yes (by omega)
                        rw [hv] at hr
                        show Steps p.tables e below (s₁.setTop (mkF m 75 #[.val (.int p1), .val (.int p1)] [(.int (1 : Int32))])) _
                        exact retN X0 hx (t := .boolean) Bd.returns (by simp) (hb hby own_d_method_3_75) hr
                      · show Steps p.tables e below (s₁.setTop (mkF m 71 #[.val (.int p1), .val (.int p1)] [(.int (127 : Int32)), (.int p1)])) _
                        refine XS.icmpYes X0.here hx rfl (pc0 := 71) (pc' := 76) rfl (hb hby own_d_method_3_71) rfl (feq hc71).2 (by decide) (by decide) ?_
                        show Steps p.tables e below (s₁.setTop (mkF m 76 #[.val (.int p1), .val (.int p1)] [])) _
                        refine XS.iconst X0.here hx rfl (hb hby own_d_method_3_76) ?_
                        have hv : r0 = (0 : Int32) := by rw [hr0]; simp only [Int32.lt_iff_toInt_lt, ← Int32.toInt_inj, Int32.reduceToInt] at hc5 hc13 hc21 hc27 hc35 hc43 hc49 hc57 hc65 hc71; exact own_rsv_no (by omega)
                        rw [hv] at hr
                        show Steps p.tables e below (s₁.setTop (mkF m 77 #[.val (.int p1), .val (.int p1)] [(.int (0 : Int32))])) _
                        exact retN X0 hx (t := .boolean) Bd.returns (by simp) (hb hby own_d_method_3_77) hr
                · show Steps p.tables e below (s₁.setTop (mkF m 49 #[.val (.int p1), .val (.int p1)] [(.int (62 : Int32)), (.int p1)])) _
                  refine XS.icmpNo X0.here hx rfl (hb hby own_d_method_3_49) rfl (flt hc49).2.2.1 ?_
                  show Steps p.tables e below (s₁.setTop (mkF m 52 #[.val (.int p1), .val (.int p1)] [])) _
                  refine XS.iconst X0.here hx rfl (hb hby own_d_method_3_52) ?_
                  have hv : r0 = (1 : Int32) := by rw [hr0]; simp only [Int32.lt_iff_toInt_lt, ← Int32.toInt_inj, Int32.reduceToInt] at hc5 hc13 hc21 hc27 hc35 hc43 hc49; exact own_rsv_yes (by omega)
                  rw [hv] at hr
                  show Steps p.tables e below (s₁.setTop (mkF m 53 #[.val (.int p1), .val (.int p1)] [(.int (1 : Int32))])) _
                  exact retN X0 hx (t := .boolean) Bd.returns (by simp) (hb hby own_d_method_3_53) hr
    · show Steps p.tables e below (s₁.setTop (mkF m 5 #[.val (.int p1), .val (.int p1)] [(.int (31 : Int32)), (.int p1)])) _
      refine XS.icmpNo X0.here hx rfl (hb hby own_d_method_3_5) rfl (flt hc5).2.2.1 ?_
      show Steps p.tables e below (s₁.setTop (mkF m 8 #[.val (.int p1), .val (.int p1)] [])) _
      refine XS.iconst X0.here hx rfl (hb hby own_d_method_3_8) ?_
      have hv : r0 = (1 : Int32) := by rw [hr0]; simp only [Int32.lt_iff_toInt_lt, ← Int32.toInt_inj, Int32.reduceToInt] at hc5; exact own_rsv_yes (by omega)
      rw [hv] at hr
      show Steps p.tables e below (s₁.setTop (mkF m 9 #[.val (.int p1), .val (.int p1)] [(.int (1 : Int32))])) _
      exact retN X0 hx (t := .boolean) Bd.returns (by simp) (hb hby own_d_method_3_9) hr
  · show own_Q_exp Z p1  h0 n0 _ s₁.heap _
    rw [e0]
    exact ⟨(by rw [hr0]), N0, rfl⟩
theorem own_d_prog_9_method_2_0 : decode prog_9_method_2_code 0 = .ok (.iload_n 0, 1) := by decide +kernel
theorem own_d_prog_9_method_2_1 : decode prog_9_method_2_code 1 = .ok (.bipush 32, 2) := by decide +kernel
theorem own_d_prog_9_method_2_3 : decode prog_9_method_2_code 3 = .ok (.if_icmp .lt 18, 3) := by decide +kernel
theorem own_d_prog_9_method_2_21 : decode prog_9_method_2_code 21 = .ok (.iconst 1, 1) := by decide +kernel
theorem own_d_prog_9_method_2_22 : decode prog_9_method_2_code 22 = .ok (.goto 4, 3) := by decide +kernel
theorem own_d_prog_9_method_2_26 : decode prog_9_method_2_code 26 = .ok (.ireturn, 1) := by decide +kernel
theorem own_pn3 : plainName "com/example/signpost/signpost/model/AttributeSyntax" = true := by first | (simp [plainName, overriddenIn]; done) | decide +kernel
theorem own_ef_rsv (m : MethodId) (x0 : Int32) : entryFrame m #[(.int x0)] 1 = mkF m 0 #[.val (.int x0)] [] := by first | (simp [entryFrame, mkF, argsToLocals, Value.category]; done) | rfl
def own_Q_rsv (Z : State) (p1 : Int32) (w : Int32) (h0 : Heap) (n0 : Nat) (v : Option Value) (h : Heap) (L : List Loc) : Prop := v = some (.int (own_rsv p1)) ∧ Fr n0 L ∧ h0.size ≤ h.size
set_option maxRecDepth 65536 in
set_option maxHeartbeats 40000000 in
theorem own_rm_rsv_a (l : Launch) (Z : State) (a0 : Array Value) (hw : ∀ d ∈ tables_1, d.before a0 Z = true) (ws : List Jvm.Cond) (p1 : Int32) (w : Int32) (h0 : Heap) (n0 : Nat) (Z0 : n0 ≤ h0.size) (S0 : Sta Z h0 "java/lang/String" "COMPACT_STRINGS" "Z" (.int w)) (hw0 : ¬ (w = (0 : Int32))) (hp : p1 < (32 : Int32)) :
    MetFree l (⟨"com/example/signpost/signpost/model/AttributeSyntax", "isReserved", "(C)Z"⟩ : MethodName) (head1 (Jvm.Cond.code (⟨"com/example/signpost/signpost/model/AttributeSyntax", "isReserved", "(C)Z"⟩ : MethodName) prog_9_method_2_code 1 (some .boolean) :: ws) ({ frames := 4, cells := 2, slots := 40, locals := 59 } : Room)) (fun a U => a = #[(.int p1)] ∧ Z.Warmed39 U.vm ∧ U.heap = h0 ∧ CHv Z consts_1 U.vm h0) (fun _ _ _ _ _ => True) (fun _ U o U' => ∃ v L, o = .returned v ∧ own_Q_rsv Z p1 w h0 n0 v U'.heap L ∧ CHr Z consts_1 U.vm U.heap U'.vm U'.heap ∧ ReturnedEndW U o U' L ({ frames := 4, cells := 2, slots := 40, locals := 59 } : Room).cells ({ frames := 4, cells := 2, slots := 40, locals := 59 } : Room).slots) := by
  refine MetFree.of_bodySF (plainFor_of_name own_pn3) hisR ?_
  intro p e s m args below meth c s₁ Bd hml0 hP hK
  obtain ⟨rfl, hZ, hh, hCH⟩ := hP
  have hx := Bd.exec
  have hby := Bd.bytes
  have hml : c.maxLocals = 1 := hml0
  have hown : s.vm.findClass "com/example/signpost/signpost/model/AttributeSyntax" = some m.cls := findClass_of_methodNamed Bd.named
  have hnm := (name_of_methodNamed Bd.named Bd.method).1
  have X0 : Stand p l e ({ frames := 4, cells := 2, slots := 40, locals := 59 } : Room) s m #[(.int p1)] below meth c s₁ [] 0 0 := Stand.of_body Bd
  have e0 : s₁.heap = h0 := by rw [← hh, Bd.state]; rfl
  have N0 := Fr.nil n0
  have pre0 : ∀ t, Steps p.tables e below (s₁.setTop (mkF m 0 #[.val (.int p1)] [])) t → Steps p.tables e below (s₁.setTop (entryFrame m #[(.int p1)] 1)) t := fun t k => castTop (own_ef_rsv m p1) k
  have hEL : EW Z a0 consts_1 := EW.cons (hw _ (List.mem_of_getElem? (i := 8) rfl)) (by decide) EW.nil
  have hS0 : s.Since s.vm 0 := (State.WarmedH.refl s).since 0
  obtain ⟨fs, hr, hrun, hended, hEnd⟩ := Stand.leaveW (s := s) (vm₁ := s.vm) X0 hS0 (Nat.zero_le _) (v := some (.int (1 : Int32))) (fun h => by rw [Bd.returns] at h; cases h)
  refine ⟨_, _, pre0 _ ?_, hrun, hended, _, _, rfl, ?_, (by have q := CHv.at (s := s) (vm0 := s.vm) X0 hZ hEL hCH; rw [← hh] at q; show CHr Z consts_1 s.vm s.heap s₁.vm s₁.heap; rw [e0, ← hh]; exact q), ⟨hEnd.1, hEnd.2.1, hEnd.2.2.1, hEnd.2.2.2.mono (by decide) (by decide)⟩⟩
  · show Steps p.tables e below (s₁.setTop (mkF m 0 #[.val (.int p1)] [])) _
    refine XS.iloadN X0.here hx rfl (hb hby own_d_prog_9_method_2_0) rfl ?_
    show Steps p.tables e below (s₁.setTop (mkF m 1 #[.val (.int p1)] [(.int p1)])) _
    refine XS.bipush X0.here hx rfl (hb hby own_d_prog_9_method_2_1) ?_
    show Steps p.tables e below (s₁.setTop (mkF m 3 #[.val (.int p1)] [(.int (32 : Int32)), (.int p1)])) _
    refine XS.icmpYes X0.here hx rfl (pc0 := 3) (pc' := 21) rfl (hb hby own_d_prog_9_method_2_3) rfl (tlt hp).1 (by decide) (by decide) ?_
    show Steps p.tables e below (s₁.setTop (mkF m 21 #[.val (.int p1)] [])) _
    refine XS.iconst X0.here hx rfl (hb hby own_d_prog_9_method_2_21) ?_
    show Steps p.tables e below (s₁.setTop (mkF m 22 #[.val (.int p1)] [(.int (1 : Int32))])) _
    refine XS.goto X0.here hx rfl (pc0 := 22) (pc' := 26) rfl (hb hby own_d_prog_9_method_2_22) (by decide) (by decide) ?_
    show Steps p.tables e below (s₁.setTop (mkF m 26 #[.val (.int p1)] [(.int (1 : Int32))])) _
    exact retN X0 hx (t := .boolean) Bd.returns (by simp) (hb hby own_d_prog_9_method_2_26) hr
  · show own_Q_rsv Z p1 w h0 n0 _ s₁.heap _
    rw [e0]
    exact ⟨(by rw [own_rsv_yes (by simp only [Int32.lt_iff_toInt_lt, ← Int32.toInt_inj, Int32.reduceToInt] at hp; omega)]), N0, (Nat.le_refl _)⟩
theorem own_d_prog_9_method_2_6 : decode prog_9_method_2_code 6 = .ok (.iload_n 0, 1) := by decide +kernel
theorem own_d_prog_9_method_2_7 : decode prog_9_method_2_code 7 = .ok (.bipush 127, 2) := by decide +kernel
theorem own_d_prog_9_method_2_9 : decode prog_9_method_2_code 9 = .ok (.if_icmp .eq 12, 3) := by decide +kernel
set_option maxRecDepth 65536 in
set_option maxHeartbeats 40000000 in
theorem own_rm_rsv_b (l : Launch) (Z : State) (a0 : Array Value) (hw : ∀ d ∈ tables_1, d.before a0 Z = true) (ws : List Jvm.Cond) (p1 : Int32) (w : Int32) (h0 : Heap) (n0 : Nat) (Z0 : n0 ≤ h0.size) (S0 : Sta Z h0 "java/lang/String" "COMPACT_STRINGS" "Z" (.int w)) (hw0 : ¬ (w = (0 : Int32))) (hp : ¬ (p1 < (32 : Int32))) (hq : p1 = (127 : Int32)) :
    MetFree l (⟨"com/example/signpost/signpost/model/AttributeSyntax", "isReserved", "(C)Z"⟩ : MethodName) (head1 (Jvm.Cond.code (⟨"com/example/signpost/signpost/model/AttributeSyntax", "isReserved", "(C)Z"⟩ : MethodName) prog_9_method_2_code 1 (some .boolean) :: ws) ({ frames := 4, cells := 2, slots := 40, locals := 59 } : Room)) (fun a U => a = #[(.int p1)] ∧ Z.Warmed39 U.vm ∧ U.heap = h0 ∧ CHv Z consts_1 U.vm h0) (fun _ _ _ _ _ => True) (fun _ U o U' => ∃ v L, o = .returned v ∧ own_Q_rsv Z p1 w h0 n0 v U'.heap L ∧ CHr Z consts_1 U.vm U.heap U'.vm U'.heap ∧ ReturnedEndW U o U' L ({ frames := 4, cells := 2, slots := 40, locals := 59 } : Room).cells ({ frames := 4, cells := 2, slots := 40, locals := 59 } : Room).slots) := by
  refine MetFree.of_bodySF (plainFor_of_name own_pn3) hisR ?_
  intro p e s m args below meth c s₁ Bd hml0 hP hK
  obtain ⟨rfl, hZ, hh, hCH⟩ := hP
  have hx := Bd.exec
  have hby := Bd.bytes
  have hml : c.maxLocals = 1 := hml0
  have hown : s.vm.findClass "com/example/signpost/signpost/model/AttributeSyntax" = some m.cls := findClass_of_methodNamed Bd.named
  have hnm := (name_of_methodNamed Bd.named Bd.method).1
  have X0 : Stand p l e ({ frames := 4, cells := 2, slots := 40, locals := 59 } : Room) s m #[(.int p1)] below meth c s₁ [] 0 0 := Stand.of_body Bd
  have e0 : s₁.heap = h0 := by rw [← hh, Bd.state]; rfl
  have N0 := Fr.nil n0
  have pre0 : ∀ t, Steps p.tables e below (s₁.setTop (mkF m 0 #[.val (.int p1)] [])) t → Steps p.tables e below (s₁.setTop (entryFrame m #[(.int p1)] 1)) t := fun t k => castTop (own_ef_rsv m p1) k
  have hEL : EW Z a0 consts_1 := EW.cons (hw _ (List.mem_of_getElem? (i := 8) rfl)) (by decide) EW.nil
  have hS0 : s.Since s.vm 0 := (State.WarmedH.refl s).since 0
  obtain ⟨fs, hr, hrun, hended, hEnd⟩ := Stand.leaveW (s := s) (vm₁ := s.vm) X0 hS0 (Nat.zero_le _) (v := some (.int (1 : Int32))) (fun h => by rw [Bd.returns] at h; cases h)
  refine ⟨_, _, pre0 _ ?_, hrun, hended, _, _, rfl, ?_, (by have q := CHv.at (s := s) (vm0 := s.vm) X0 hZ hEL hCH; rw [← hh] at q; show CHr Z consts_1 s.vm s.heap s₁.vm s₁.heap; rw [e0, ← hh]; exact q), ⟨hEnd.1, hEnd.2.1, hEnd.2.2.1, hEnd.2.2.2.mono (by decide) (by decide)⟩⟩
  · show Steps p.tables e below (s₁.setTop (mkF m 0 #[.val (.int p1)] [])) _
    refine XS.iloadN X0.here hx rfl (hb hby own_d_prog_9_method_2_0) rfl ?_
    show Steps p.tables e below (s₁.setTop (mkF m 1 #[.val (.int p1)] [(.int p1)])) _
    refine XS.bipush X0.here hx rfl (hb hby own_d_prog_9_method_2_1) ?_
    show Steps p.tables e below (s₁.setTop (mkF m 3 #[.val (.int p1)] [(.int (32 : Int32)), (.int p1)])) _
    refine XS.icmpNo X0.here hx rfl (hb hby own_d_prog_9_method_2_3) rfl (flt hp).1 ?_
    show Steps p.tables e below (s₁.setTop (mkF m 6 #[.val (.int p1)] [])) _
    refine XS.iloadN X0.here hx rfl (hb hby own_d_prog_9_method_2_6) rfl ?_
    show Steps p.tables e below (s₁.setTop (mkF m 7 #[.val (.int p1)] [(.int p1)])) _
    refine XS.bipush X0.here hx rfl (hb hby own_d_prog_9_method_2_7) ?_
    show Steps p.tables e below (s₁.setTop (mkF m 9 #[.val (.int p1)] [(.int (127 : Int32)), (.int p1)])) _
    refine XS.icmpYes X0.here hx rfl (pc0 := 9) (pc' := 21) rfl (hb hby own_d_prog_9_method_2_9) rfl (teq hq).1 (by decide) (by decide) ?_
    show Steps p.tables e below (s₁.setTop (mkF m 21 #[.val (.int p1)] [])) _
    refine XS.iconst X0.here hx rfl (hb hby own_d_prog_9_method_2_21) ?_
    show Steps p.tables e below (s₁.setTop (mkF m 22 #[.val (.int p1)] [(.int (1 : Int32))])) _
    refine XS.goto X0.here hx rfl (pc0 := 22) (pc' := 26) rfl (hb hby own_d_prog_9_method_2_22) (by decide) (by decide) ?_
    show Steps p.tables e below (s₁.setTop (mkF m 26 #[.val (.int p1)] [(.int (1 : Int32))])) _
    exact retN X0 hx (t := .boolean) Bd.returns (by simp) (hb hby own_d_prog_9_method_2_26) hr
  · show own_Q_rsv Z p1 w h0 n0 _ s₁.heap _
    rw [e0]
    exact ⟨(by rw [own_rsv_yes (by simp only [Int32.lt_iff_toInt_lt, ← Int32.toInt_inj, Int32.reduceToInt] at hq; omega)]), N0, (Nat.le_refl _)⟩
theorem own_d_prog_9_method_2_12 : decode prog_9_method_2_code 12 = .ok (.ldc 9, 2) := by decide +kernel
theorem own_d_prog_9_method_2_14 : decode prog_9_method_2_code 14 = .ok (.iload_n 0, 1) := by decide +kernel
theorem own_d_prog_9_method_2_15 : decode prog_9_method_2_code 15 = .ok (.invokevirtual 11, 3) := by decide +kernel
theorem own_pd6 : parseMethodDescriptor "(I)I" = some ⟨[.int], some .int⟩ := by decide +kernel
theorem own_d_prog_9_method_2_18 : decode prog_9_method_2_code 18 = .ok (.ifCond .lt 7, 3) := by decide +kernel
theorem own_d_prog_9_method_2_25 : decode prog_9_method_2_code 25 = .ok (.iconst 0, 1) := by decide +kernel
set_option maxRecDepth 65536 in
set_option maxHeartbeats 40000000 in
theorem own_rm_rsv_c (l : Launch) (Z : State) (a0 : Array Value) (hw : ∀ d ∈ tables_1, d.before a0 Z = true) (ws : List Jvm.Cond) (p1 : Int32) (w : Int32) (h0 : Heap) (n0 : Nat) (Z0 : n0 ≤ h0.size) (S0 : Sta Z h0 "java/lang/String" "COMPACT_STRINGS" "Z" (.int w)) (hw0 : ¬ (w = (0 : Int32))) (hp : ¬ (p1 < (32 : Int32))) (hq : ¬ (p1 = (127 : Int32))) :
    MetFree l (⟨"com/example/signpost/signpost/model/AttributeSyntax", "isReserved", "(C)Z"⟩ : MethodName) (head1 (Jvm.Cond.code (⟨"com/example/signpost/signpost/model/AttributeSyntax", "isReserved", "(C)Z"⟩ : MethodName) prog_9_method_2_code 1 (some .boolean) :: ws) ({ frames := 4, cells := 2, slots := 40, locals := 59 } : Room)) (fun a U => a = #[(.int p1)] ∧ Z.Warmed39 U.vm ∧ U.heap = h0 ∧ CHv Z consts_1 U.vm h0) (fun _ _ _ _ _ => True) (fun _ U o U' => ∃ v L, o = .returned v ∧ own_Q_rsv Z p1 w h0 n0 v U'.heap L ∧ CHr Z consts_1 U.vm U.heap U'.vm U'.heap ∧ ReturnedEndW U o U' L ({ frames := 4, cells := 2, slots := 40, locals := 59 } : Room).cells ({ frames := 4, cells := 2, slots := 40, locals := 59 } : Room).slots) := by
  refine MetFree.of_bodySF (plainFor_of_name own_pn3) hisR ?_
  intro p e s m args below meth c s₁ Bd hml0 hP hK
  obtain ⟨rfl, hZ, hh, hCH⟩ := hP
  have hx := Bd.exec
  have hby := Bd.bytes
  have hml : c.maxLocals = 1 := hml0
  have hown : s.vm.findClass "com/example/signpost/signpost/model/AttributeSyntax" = some m.cls := findClass_of_methodNamed Bd.named
  have hnm := (name_of_methodNamed Bd.named Bd.method).1
  have X0 : Stand p l e ({ frames := 4, cells := 2, slots := 40, locals := 59 } : Room) s m #[(.int p1)] below meth c s₁ [] 0 0 := Stand.of_body Bd
  have e0 : s₁.heap = h0 := by rw [← hh, Bd.state]; rfl
  have N0 := Fr.nil n0
  have pre0 : ∀ t, Steps p.tables e below (s₁.setTop (mkF m 0 #[.val (.int p1)] [])) t → Steps p.tables e below (s₁.setTop (entryFrame m #[(.int p1)] 1)) t := fun t k => castTop (own_ef_rsv m p1) k
  have hEL : EW Z a0 consts_1 := EW.cons (hw _ (List.mem_of_getElem? (i := 8) rfl)) (by decide) EW.nil
  have hS0 : s.Since s.vm 0 := (State.WarmedH.refl s).since 0
  have wS : ∀ a ∈ Bundle.stringAtoms, a.before a0 Z = true := by
    intro a ha
    simp only [Bundle.stringAtoms, List.mem_cons, List.not_mem_nil, or_false] at ha
    rcases ha with rfl | rfl | rfl | rfl | rfl | rfl | rfl
    · exact (hw _ (List.mem_of_getElem? (i := 9) rfl))
    · exact (hw _ (List.mem_of_getElem? (i := 10) rfl))
    · exact (hw _ (List.mem_of_getElem? (i := 11) rfl))
    · exact (hw _ (List.mem_of_getElem? (i := 12) rfl))
    · exact (hw _ (List.mem_of_getElem? (i := 13) rfl))
    · exact (hw _ (List.mem_of_getElem? (i := 14) rfl))
    · exact (hw _ (List.mem_of_getElem? (i := 15) rfl))
  obtain ⟨a1, T1, h1, k1, b, k, X1, e1, E1, hS1, hk1, hZ1, hown1, Ex1, Fc1, Fv1, V1, -, -, hC1, -, -, st1⟩ := ldcCH (s := s) (vm0 := s.vm) (vs := own_vs) (z := (9 : Int32)) X0 hx hZ hown (hw _ (List.mem_of_getElem? (i := 8) rfl)) wS e0 hS0 (Nat.zero_le _) hEL (by simp [consts_1]) hCH (by decide) (by decide) (by decide) (g := (mkF m 12 #[.val (.int p1)] [])) rfl (hb hby own_d_prog_9_method_2_12) (n := 36) (by decide) (by decide) (by decide) (by decide)
  have Sx1 := S0.ext E1
  have Z1 := Nat.le_trans Z0 E1.1
  obtain ⟨r0, hr0⟩ : ∃ z : Int32, z = own_rsv p1 := ⟨_, rfl⟩
  obtain ⟨cq2, kq2, q2a, q2b, q2c⟩ := isOf hZ1 e1 Ex1
  obtain ⟨_, _, ⟨T2, L2, k2, n2⟩, -, X2, ⟨Lc2, hQ2, l2, y2, z2⟩, st2⟩ := X1.virtualBack hx (y := (⟨"java/lang/String", "indexOf", "(I)I"⟩ : MethodName)) (z := (⟨"java/lang/String", "indexOf", "(I)I"⟩ : MethodName)) hown1 (mvT hZ1 (hw _ (List.mem_of_getElem? (i := 16) rfl))) (mvT hZ1 (hw _ (List.mem_of_getElem? (i := 17) rfl))) (notFace_of_selects (args := #[]) (mvT hZ1 (hw _ (List.mem_of_getElem? (i := 19) rfl)))) (mvT hZ1 (hw _ (List.mem_of_getElem? (i := 19) rfl))) (mvT hZ1 (hw _ (List.mem_of_getElem? (i := 18) rfl))) (by decide) (backOf (W := 0) (own_rm_ix1 l Z a0 hw [] a1 p1 b k w h1 n0 Z1 ⟨Ex1, Fc1, Fv1, V1, Sx1⟩ hw0) hZ1 (hw _ (List.mem_of_getElem? (i := 20) rfl)) (hw _ (List.mem_of_getElem? (i := 9) rfl)) (by decide) (by decide)) q2a q2c (g := (mkF m 15 #[.val (.int p1)] [(.int p1), (.ref a1)])) rfl (by rw [hml]; rfl) (Steps.refl _) (argsL := [(.int p1)]) (rest := []) (lenOf own_pd6 rfl) rfl (by show 2 * 0 + _ ≤ _; exact Nat.le_of_eq rfl) (hb hby own_d_prog_9_method_2_15) (fun _ _ => ⟨rfl, e1, (by decide : 2 + 0 ≤ _), (by decide : 40 + 0 ≤ _)⟩)
  dsimp only [Pt.U, Pt.locs, Pt.cells, Pt.slots] at X2 l2 y2 z2 st2 hQ2
  subst l2 y2 z2
  obtain ⟨rfl, N2q, e2q⟩ := hQ2
  have N2 := Fr.app N0 N2q
  have E2_a1 : Exa Z T2.heap a1 "java/lang/String" := by rw [e2q]; exact Ex1
  have Fs2_a1_coder : Fld Z T2.heap a1 "java/lang/String" "coder" "B" (.int (0 : Int32)) := by rw [e2q]; exact Fc1
  have Fs2_a1_value : Fld Z T2.heap a1 "java/lang/String" "value" "[B" (.ref b) := by rw [e2q]; exact Fv1
  have Vs2_b : Arv Z T2.heap b k .byte (9 : Int32) own_vs (.int 0) := by rw [e2q]; exact V1
  have Ss2_COMPACT_STRINGS : Sta Z T2.heap "java/lang/String" "COMPACT_STRINGS" "Z" (.int w) := by rw [e2q]; exact Sx1
  have Z2 : n0 ≤ T2.heap.size := by rw [e2q]; exact Z1
  obtain ⟨fs, hr, hrun, hended, hEnd⟩ := Stand.leaveW (s := s) (vm₁ := T1.vm) X2 hS1 (by rw [e2q]; exact hk1) (v := some (.int r0)) (fun h => by rw [Bd.returns] at h; cases h)
  refine ⟨_, _, pre0 _ ?_, hrun, hended, _, _, rfl, ?_, (by have q := hC1.trans (CHv.at (s := s) (vm0 := T1.vm) X2 hZ1 hEL hC1.1); rw [← hh] at q; show CHr Z consts_1 s.vm s.heap T2.vm T2.heap; rw [e2q]; exact q), ⟨hEnd.1, hEnd.2.1, hEnd.2.2.1, hEnd.2.2.2.mono (by decide) (by decide)⟩⟩
  · show Steps p.tables e below (s₁.setTop (mkF m 0 #[.val (.int p1)] [])) _
    refine XS.iloadN X0.here hx rfl (hb hby own_d_prog_9_method_2_0) rfl ?_
    show Steps p.tables e below (s₁.setTop (mkF m 1 #[.val (.int p1)] [(.int p1)])) _
    refine XS.bipush X0.here hx rfl (hb hby own_d_prog_9_method_2_1) ?_
    show Steps p.tables e below (s₁.setTop (mkF m 3 #[.val (.int p1)] [(.int (32 : Int32)), (.int p1)])) _
    refine XS.icmpNo X0.here hx rfl (hb hby own_d_prog_9_method_2_3) rfl (flt hp).1 ?_
    show Steps p.tables e below (s₁.setTop (mkF m 6 #[.val (.int p1)] [])) _
    refine XS.iloadN X0.here hx rfl (hb hby own_d_prog_9_method_2_6) rfl ?_
    show Steps p.tables e below (s₁.setTop (mkF m 7 #[.val (.int p1)] [(.int p1)])) _
    refine XS.bipush X0.here hx rfl (hb hby own_d_prog_9_method_2_7) ?_
    show Steps p.tables e below (s₁.setTop (mkF m 9 #[.val (.int p1)] [(.int (127 : Int32)), (.int p1)])) _
    refine XS.icmpNo X0.here hx rfl (hb hby own_d_prog_9_method_2_9) rfl (feq hq).1 ?_
    show Steps p.tables e below (s₁.setTop (mkF m 12 #[.val (.int p1)] [])) _
    refine st1 _ ?_
    show Steps p.tables e below (T1.setTop (mkF m 14 #[.val (.int p1)] [(.ref a1)])) _
    refine XS.iloadN X1.here hx rfl (hb hby own_d_prog_9_method_2_14) rfl ?_
    show Steps p.tables e below (T1.setTop (mkF m 15 #[.val (.int p1)] [(.int p1), (.ref a1)])) _
    refine st2.trans ?_
    by_cases hc18 : (own_ind p1) < (0 : Int32)
    · show Steps p.tables e below (T2.setTop (mkF m 18 #[.val (.int p1)] [(.int (own_ind p1))])) _
      refine XS.ifYes X2.here hx rfl (pc0 := 18) (pc' := 25) rfl (hb hby own_d_prog_9_method_2_18) rfl ((if0 _ _).trans (tlt hc18).1) (by decide) (by decide) ?_
      show Steps p.tables e below (T2.setTop (mkF m 25 #[.val (.int p1)] [])) _
      refine XS.iconst X2.here hx rfl (hb hby own_d_prog_9_method_2_25) ?_
      have hv : r0 = (0 : Int32) := by rw [hr0]; exact (own_key hp hq).1 hc18
      rw [hv] at hr
      show Steps p.tables e below (T2.setTop (mkF m 26 #[.val (.int p1)] [(.int (0 : Int32))])) _
      exact retN X2 hx (t := .boolean) Bd.returns (by simp) (hb hby own_d_prog_9_method_2_26) hr
    · show Steps p.tables e below (T2.setTop (mkF m 18 #[.val (.int p1)] [(.int (own_ind p1))])) _
      refine XS.ifNo X2.here hx rfl (hb hby own_d_prog_9_method_2_18) rfl ((if0 _ _).trans (flt hc18).1) ?_
      show Steps p.tables e below (T2.setTop (mkF m 21 #[.val (.int p1)] [])) _
      refine XS.iconst X2.here hx rfl (hb hby own_d_prog_9_method_2_21) ?_
      show Steps p.tables e below (T2.setTop (mkF m 22 #[.val (.int p1)] [(.int (1 : Int32))])) _
      refine XS.goto X2.here hx rfl (pc0 := 22) (pc' := 26) rfl (hb hby own_d_prog_9_method_2_22) (by decide) (by decide) ?_
      have hv : r0 = (1 : Int32) := by rw [hr0]; exact (own_key hp hq).2 hc18
      rw [hv] at hr
      show Steps p.tables e below (T2.setTop (mkF m 26 #[.val (.int p1)] [(.int (1 : Int32))])) _
      exact retN X2 hx (t := .boolean) Bd.returns (by simp) (hb hby own_d_prog_9_method_2_26) hr
  · show own_Q_rsv Z p1 w h0 n0 _ T2.heap _
    exact ⟨(by rw [hr0]), N2, (by rw [e2q]; exact E1.1)⟩
set_option maxRecDepth 65536 in
set_option maxHeartbeats 40000000 in
theorem own_rm_rsv (l : Launch) (Z : State) (a0 : Array Value) (hw : ∀ d ∈ tables_1, d.before a0 Z = true) (ws : List Jvm.Cond) (p1 : Int32) (w : Int32) (h0 : Heap) (n0 : Nat) (Z0 : n0 ≤ h0.size) (S0 : Sta Z h0 "java/lang/String" "COMPACT_STRINGS" "Z" (.int w)) (hw0 : ¬ (w = (0 : Int32))) :
    MetFree l (⟨"com/example/signpost/signpost/model/AttributeSyntax", "isReserved", "(C)Z"⟩ : MethodName) (head1 (Jvm.Cond.code (⟨"com/example/signpost/signpost/model/AttributeSyntax", "isReserved", "(C)Z"⟩ : MethodName) prog_9_method_2_code 1 (some .boolean) :: ws) ({ frames := 4, cells := 2, slots := 40, locals := 59 } : Room)) (fun a U => a = #[(.int p1)] ∧ Z.Warmed39 U.vm ∧ U.heap = h0 ∧ CHv Z consts_1 U.vm h0) (fun _ _ _ _ _ => True) (fun _ U o U' => ∃ v L, o = .returned v ∧ own_Q_rsv Z p1 w h0 n0 v U'.heap L ∧ CHr Z consts_1 U.vm U.heap U'.vm U'.heap ∧ ReturnedEndW U o U' L ({ frames := 4, cells := 2, slots := 40, locals := 59 } : Room).cells ({ frames := 4, cells := 2, slots := 40, locals := 59 } : Room).slots) := by
  by_cases hp : p1 < (32 : Int32)
  · exact own_rm_rsv_a l Z a0 hw ws p1 w h0 n0 Z0 S0 hw0 hp
  · by_cases hq : p1 = (127 : Int32)
    · exact own_rm_rsv_b l Z a0 hw ws p1 w h0 n0 Z0 S0 hw0 hp hq
    · exact own_rm_rsv_c l Z a0 hw ws p1 w h0 n0 Z0 S0 hw0 hp hq
theorem own_pd7 : parseMethodDescriptor "(C)Z" = some ⟨[.char], some .boolean⟩ := by decide +kernel
theorem own_ef_law (m : MethodId) (x0 : Int32) (x1 : Int32) : entryFrame m #[(.int x0), (.int x1)] maxLocals = mkF m 0 #[.val (.int x0), .val (.int x1), .unset] [] := by first | (simp [entryFrame, mkF, argsToLocals, Value.category, maxLocals]; done) | rfl
def own_Q_law (Z : State) (p1 : Int32) (p2 : Int32) (w : Int32) (h0 : Heap) (n0 : Nat) (v : Option Value) (h : Heap) (L : List Loc) : Prop := v = some (.int (1 : Int32)) ∧ Fr n0 L
set_option maxRecDepth 65536 in
set_option maxHeartbeats 40000000 in
theorem own_rm_law (l : Launch) (Z : State) (a0 : Array Value) (hw : ∀ d ∈ tables_1, d.before a0 Z = true) (ws : List Jvm.Cond) (p1 : Int32) (p2 : Int32) (w : Int32) (h0 : Heap) (n0 : Nat) (Z0 : n0 ≤ h0.size) (S0 : Sta Z h0 "java/lang/String" "COMPACT_STRINGS" "Z" (.int w)) (hw0 : ¬ (w = (0 : Int32))) :
    MetFree l x (head1 (Jvm.Cond.code x code maxLocals ret :: ws) room_1) (fun a U => a = #[(.int p1), (.int p2)] ∧ Z.Warmed39 U.vm ∧ U.heap = h0 ∧ CHv Z consts_1 U.vm h0) (fun _ _ _ _ _ => True) (fun _ U o U' => ∃ v L, o = .returned v ∧ own_Q_law Z p1 p2 w h0 n0 v U'.heap L ∧ ReturnedEndW U o U' L room_1.cells room_1.slots) := by
  refine MetFree.of_bodySF (plainFor_of_name own_pn2) hisR ?_
  intro p e s m args below meth c s₁ Bd hml0 hP hK
  obtain ⟨rfl, hZ, hh, hCH⟩ := hP
  have hx := Bd.exec
  have hby := Bd.bytes
  have hml : c.maxLocals = 3 := hml0
  have hown : s.vm.findClass "com/example/signpost/signpost/model/AttributeSyntaxIsReservedPinLaw" = some m.cls := findClass_of_methodNamed Bd.named
  have hnm := (name_of_methodNamed Bd.named Bd.method).1
  have X0 : Stand p l e room_1 s m #[(.int p1), (.int p2)] below meth c s₁ [] 0 0 := Stand.of_body Bd
  have e0 : s₁.heap = h0 := by rw [← hh, Bd.state]; rfl
  have N0 := Fr.nil n0
  have pre0 : ∀ t, Steps p.tables e below (s₁.setTop (mkF m 0 #[.val (.int p1), .val (.int p2), .unset] [])) t → Steps p.tables e below (s₁.setTop (entryFrame m #[(.int p1), (.int p2)] maxLocals)) t := fun t k => castTop (own_ef_law m p1 p2) k
  have hEL : EW Z a0 consts_1 := EW.cons (hw _ (List.mem_of_getElem? (i := 8) rfl)) (by decide) EW.nil
  obtain ⟨c1, hc1⟩ : ∃ z : Int32, z = (if (p2 &&& (1 : Int32)) = (0 : Int32) then (p1.toUInt32.toUInt16.toUInt32.toInt32) else ((p1 &&& (127 : Int32)).toUInt32.toUInt16.toUInt32.toInt32)) := ⟨_, rfl⟩
  obtain ⟨_, _, ⟨T2, L2, k2, n2⟩, -, X2, hS2, hg2, ⟨Lc2, hQ2, l2, y2, z2, hC2⟩, st2⟩ := callSS X0 hx (y := (⟨"com/example/signpost/signpost/model/AttributeSyntax", "isReserved", "(C)Z"⟩ : MethodName)) hown (mvT hZ (hw _ (List.mem_of_getElem? (i := 0) rfl))) (mvT hZ (hw _ (List.mem_of_getElem? (i := 1) rfl))) (mvT hZ (hw _ (List.mem_of_getElem? (i := 2) rfl))) (mvT hZ (hw _ (List.mem_of_getElem? (i := 3) rfl))) (by decide) (backOfSH (s := s) (vm0 := s.vm) (W := 0) (own_rm_rsv l Z a0 hw [] c1 w h0 n0 Z0 S0 hw0) hZ (hw _ (List.mem_of_getElem? (i := 3) rfl)) (hw _ (List.mem_of_getElem? (i := 2) rfl)) (by decide) (by decide) hEL hCH) (g := (mkF m 18 #[.val (.int p1), .val (.int p2), .val (.int c1)] [(.int c1)])) rfl (by rw [hml]; rfl) (argsL := [(.int c1)]) (rest := []) (lenOf own_pd7 rfl) rfl (by show 2 * 0 + _ ≤ _; exact Nat.le_of_eq rfl) (hb hby at_18) (fun _ _ => ⟨rfl, e0, (by decide : 0 + 2 ≤ _), (by decide : 0 + 40 ≤ _)⟩)
  dsimp only [Pt.U, Pt.locs, Pt.cells, Pt.slots] at X2 hS2 hg2 l2 y2 z2 hC2 st2 hQ2
  subst l2 y2 z2
  obtain ⟨rfl, N2q, G2⟩ := hQ2
  have N2 := Fr.app N0 N2q
  have hZ2 : Z.Warmed39 (s.setVm T2.vm).vm := State.Warmed39.trans hZ hS2.1
  have hown2 : (s.setVm T2.vm).vm.findClass "com/example/signpost/signpost/model/AttributeSyntaxIsReservedPinLaw" = some m.cls := (hS2.1.alike.findClass _ _).trans hown
  have Z2 := Nat.le_trans Z0 G2
  obtain ⟨_, _, ⟨T3, L3, k3, n3⟩, -, X3, ⟨Lc3, hQ3, l3, y3, z3⟩, st3⟩ := Jvm.LawKit.callS X2 hx (y := (⟨"com/example/signpost/signpost/model/AttributeSyntaxIsReservedPinLaw", "expected", "(C)Z"⟩ : MethodName)) hown2 (mvT hZ2 (hw _ (List.mem_of_getElem? (i := 4) rfl))) (mvT hZ2 (hw _ (List.mem_of_getElem? (i := 5) rfl))) (mvT hZ2 (hw _ (List.mem_of_getElem? (i := 6) rfl))) (mvT hZ2 (hw _ (List.mem_of_getElem? (i := 7) rfl))) (by decide) (backOf (W := 1) (own_rm_exp l Z a0 hw [] c1 T2.heap n0 Z2) hZ2 (hw _ (List.mem_of_getElem? (i := 7) rfl)) (hw _ (List.mem_of_getElem? (i := 6) rfl)) (by decide) (by decide)) (g := (mkF m 22 #[.val (.int p1), .val (.int p2), .val (.int c1)] [(.int c1), (.int (own_rsv c1))])) rfl (by rw [hml]; rfl) (argsL := [(.int c1)]) (rest := [(.int (own_rsv c1))]) (lenOf own_pd7 rfl) rfl (by show 2 * 0 + _ ≤ _; exact Nat.le_of_eq rfl) (hb hby at_22) (fun _ _ => ⟨rfl, rfl, (by decide : 2 + 0 ≤ _), (by decide : 40 + 0 ≤ _)⟩)
  dsimp only [Pt.U, Pt.locs, Pt.cells, Pt.slots] at X3 l3 y3 z3 st3 hQ3
  subst l3 y3 z3
  obtain ⟨rfl, N3q, e3q⟩ := hQ3
  have N3 := Fr.app N2 N3q
  have Z3 : n0 ≤ T3.heap.size := by rw [e3q]; exact Z2
  obtain ⟨fs, hr, hrun, hended, hEnd⟩ := Stand.leaveW (s := s) (vm₁ := T2.vm) X3 hS2 (by rw [e3q]; exact Nat.le_refl _) (v := some (.int (1 : Int32))) (fun h => by rw [Bd.returns] at h; cases h)
  refine ⟨_, _, pre0 _ ?_, hrun, hended, _, _, rfl, ?_, ⟨hEnd.1, hEnd.2.1, hEnd.2.2.1, hEnd.2.2.2.mono (by decide) (by decide)⟩⟩
  · show Steps p.tables e below (s₁.setTop (mkF m 0 #[.val (.int p1), .val (.int p2), .unset] [])) _
    refine XS.iloadN X0.here hx rfl (hb hby at_0) rfl ?_
    show Steps p.tables e below (s₁.setTop (mkF m 1 #[.val (.int p1), .val (.int p2), .unset] [(.int p2)])) _
    refine XS.iconst X0.here hx rfl (hb hby at_1) ?_
    show Steps p.tables e below (s₁.setTop (mkF m 2 #[.val (.int p1), .val (.int p2), .unset] [(.int (1 : Int32)), (.int p2)])) _
    refine XS.iand X0.here hx rfl (hb hby at_2) rfl ?_
    suffices J3 : Steps p.tables e below (s₁.setTop (mkF m 16 #[.val (.int p1), .val (.int p2), .unset] [(.int c1)])) (T3.setFrames fs) by
      by_cases hc3 : (p2 &&& (1 : Int32)) = (0 : Int32)
      · rw [hc1, if_pos hc3] at J3
        show Steps p.tables e below (s₁.setTop (mkF m 3 #[.val (.int p1), .val (.int p2), .unset] [(.int (p2 &&& (1 : Int32)))])) _
        refine XS.ifYes X0.here hx rfl (pc0 := 3) (pc' := 14) rfl (hb hby at_3) rfl ((if0 _ _).trans (teq hc3).1) (by decide) (by decide) ?_
        show Steps p.tables e below (s₁.setTop (mkF m 14 #[.val (.int p1), .val (.int p2), .unset] [])) _
        refine XS.iloadN X0.here hx rfl (hb hby at_14) rfl ?_
        show Steps p.tables e below (s₁.setTop (mkF m 15 #[.val (.int p1), .val (.int p2), .unset] [(.int p1)])) _
        refine XS.i2c X0.here hx rfl (hb hby at_15) rfl ?_
        exact J3
      · rw [hc1, if_neg hc3] at J3
        show Steps p.tables e below (s₁.setTop (mkF m 3 #[.val (.int p1), .val (.int p2), .unset] [(.int (p2 &&& (1 : Int32)))])) _
        refine XS.ifNo X0.here hx rfl (hb hby at_3) rfl ((if0 _ _).trans (feq hc3).1) ?_
        show Steps p.tables e below (s₁.setTop (mkF m 6 #[.val (.int p1), .val (.int p2), .unset] [])) _
        refine XS.iloadN X0.here hx rfl (hb hby at_6) rfl ?_
        show Steps p.tables e below (s₁.setTop (mkF m 7 #[.val (.int p1), .val (.int p2), .unset] [(.int p1)])) _
        refine XS.bipush X0.here hx rfl (hb hby at_7) ?_
        show Steps p.tables e below (s₁.setTop (mkF m 9 #[.val (.int p1), .val (.int p2), .unset] [(.int (127 : Int32)), (.int p1)])) _
        refine XS.iand X0.here hx rfl (hb hby at_9) rfl ?_
        show Steps p.tables e below (s₁.setTop (mkF m 10 #[.val (.int p1), .val (.int p2), .unset] [(.int (p1 &&& (127 : Int32)))])) _
        refine XS.i2c X0.here hx rfl (hb hby at_10) rfl ?_
        show Steps p.tables e below (s₁.setTop (mkF m 11 #[.val (.int p1), .val (.int p2), .unset] [(.int ((p1 &&& (127 : Int32)).toUInt32.toUInt16.toUInt32.toInt32))])) _
        refine XS.goto X0.here hx rfl (pc0 := 11) (pc' := 16) rfl (hb hby at_11) (by decide) (by decide) ?_
        exact J3
    show Steps p.tables e below (s₁.setTop (mkF m 16 #[.val (.int p1), .val (.int p2), .unset] [(.int c1)])) _
    refine XS.istoreN X0.here hx rfl (hb hby at_16) rfl (l' := #[.val (.int p1), .val (.int p2), .val (.int c1)]) rfl ?_
    show Steps p.tables e below (s₁.setTop (mkF m 17 #[.val (.int p1), .val (.int p2), .val (.int c1)] [])) _
    refine XS.iloadN X0.here hx rfl (hb hby at_17) rfl ?_
    show Steps p.tables e below (s₁.setTop (mkF m 18 #[.val (.int p1), .val (.int p2), .val (.int c1)] [(.int c1)])) _
    refine st2.trans ?_
    show Steps p.tables e below (T2.setTop (mkF m 21 #[.val (.int p1), .val (.int p2), .val (.int c1)] [(.int (own_rsv c1))])) _
    refine XS.iloadN X2.here hx rfl (hb hby at_21) rfl ?_
    show Steps p.tables e below (T2.setTop (mkF m 22 #[.val (.int p1), .val (.int p2), .val (.int c1)] [(.int c1), (.int (own_rsv c1))])) _
    refine st3 _ ?_
    show Steps p.tables e below (T3.setTop (mkF m 25 #[.val (.int p1), .val (.int p2), .val (.int c1)] [(.int (own_rsv c1)), (.int (own_rsv c1))])) _
    refine XS.icmpNo X3.here hx rfl (hb hby at_25) rfl (teq rfl).2 ?_
    show Steps p.tables e below (T3.setTop (mkF m 28 #[.val (.int p1), .val (.int p2), .val (.int c1)] [])) _
    refine XS.iconst X3.here hx rfl (hb hby at_28) ?_
    show Steps p.tables e below (T3.setTop (mkF m 29 #[.val (.int p1), .val (.int p2), .val (.int c1)] [(.int (1 : Int32))])) _
    refine XS.goto X3.here hx rfl (pc0 := 29) (pc' := 33) rfl (hb hby at_29) (by decide) (by decide) ?_
    show Steps p.tables e below (T3.setTop (mkF m 33 #[.val (.int p1), .val (.int p2), .val (.int c1)] [(.int (1 : Int32))])) _
    exact retN X3 hx (t := .boolean) Bd.returns (by simp) (hb hby at_33) hr
  · show own_Q_law Z p1 p2 w h0 n0 _ T3.heap _
    exact ⟨rfl, N3⟩
set_option maxRecDepth 65536 in
set_option maxHeartbeats 40000000 in
theorem own_comes {Post : Tables → Env → Array Value → State → Outcome → State → Prop} (hpost : ∀ tb e args s v u, (limb_1_1.after args s (.returned v) u = true ∧ limb_1_2.after args s (.returned v) u = true) → FramedW s (.returned v) u (Jvm.fieldLocs frame_1_writes args s ++ Jvm.arrayLocs frame_1_arrays args s ++ Jvm.staticLocs frame_1_statics s) 8 1088 → Post tb e args s (.returned v) u) :
    ArmFor flags0 classFile x code maxLocals ret World_1 tables_1 room_1 Calls_1 rest_1 Pre_1 Post := by
  intro l hfl _ _ p e ha hc hk s m args below hf hA hF happ hP
  obtain ⟨hcalls, hrest, hpre⟩ := hP
  obtain ⟨-, -, -, hnamed, -, -, -, hat⟩ := (Spec.applies_iff hf).mp happ
  obtain ⟨hg, hn⟩ := and_e (Cond.before_iff.mp (show (Jvm.Cond.and given_1 narrow_1).before args s = true from hpre))
  obtain ⟨gc, gr⟩ := and_e hg
  obtain ⟨ga0, gr0⟩ := and_e gr
  obtain ⟨w0, w1, rfl⟩ : ∃ w0 w1 : Value, args = #[w0, w1] := by
    have hs : args.size = 2 := by simpa [Cond.value, given_1] using gc
    obtain ⟨L⟩ := args
    match L, hs with
    | [w0, w1], _ => exact ⟨w0, w1, rfl⟩
  have hw := fun d (hd : d ∈ tables_1) => atoms_spec (ws := Jvm.Cond.code x code maxLocals ret :: tables_1) hat d (List.mem_cons_of_mem _ hd)
  obtain ⟨i0, ei0⟩ := is_v ga0
  obtain rfl : w0 = (.int i0) := Option.some.inj ei0
  obtain ⟨i1, ei1⟩ := is_v gr0
  obtain rfl : w1 = (.int i1) := Option.some.inj ei1
  obtain ⟨hsets, hown0⟩ := atoms_of _ (rest_1_c_eq ▸ (show rest_1_c.before _ s = true from hrest))
  have c0 := hsets _ (List.mem_of_getElem? (i := 0) rfl)
  have c1 := hsets _ (List.mem_of_getElem? (i := 1) rfl)
  have c2 := hsets _ (List.mem_of_getElem? (i := 2) rfl)
  obtain ⟨w, ew⟩ := is_v (Cond.before_iff.mp c1)
  have S0 : Sta s s.heap "java/lang/String" "COMPACT_STRINGS" "Z" (.int w) := Sta.start ew (Or.inl c0)
  have hw0 : ¬ (w = (0 : Int32)) := by
    intro q
    subst q
    have q1 : (Jvm.Cond.eq (Term.static "java/lang/String" "COMPACT_STRINGS" "Z") (Term.int 0)).value _ s none s [] = some true := eq_i ew (Term.int_eval 0) rfl
    have q2 : Option.map not ((Jvm.Cond.eq (Term.static "java/lang/String" "COMPACT_STRINGS" "Z") (Term.int 0)).value _ s none s []) = some true := Cond.before_iff.mp c2
    rw [q1] at q2
    cases q2
  have hEL : EW s _ consts_1 := EW.cons (hw _ (List.mem_of_getElem? (i := 8) rfl)) (by decide) EW.nil
  have hCH : CHv s consts_1 s.vm s.heap := CHv.start hEL (fun q hq => hcalls.1 q hq) c2 (hw _ (List.mem_of_getElem? (i := 11) rfl)) (hw _ (List.mem_of_getElem? (i := 10) rfl))
  obtain ⟨n, o, h1, h2, h3, _, L, rfl, ⟨rfl, N⟩, hq⟩ := own_rm_law l s _ hw tables_1 i0 i1 w s.heap s.heap.size (Nat.le_refl _) S0 hw0 p e ha hc hk s m _ below hf ((Spec.applies_iff_loose hf).mp happ).1 ⟨rfl, State.Warmed39.refl s, rfl, hCH⟩ trivial
  refine ⟨n, _, h1, h2, h3, hpost _ _ _ _ _ _ ⟨Cond.after_iff.mpr rfl, Cond.after_iff.mpr (eq_i res_at (Term.int_eval (1)) rfl)⟩ ⟨hq.1, hq.2.1, hq.2.2.1, (hq.2.2.2.sift fun y hy => Or.inr (N y hy)).mono (by decide) (by decide)⟩⟩
theorem main_1_1 : Claimed_1_1 := own_comes fun _ _ _ _ _ _ h hF => ⟨h.1, hF⟩
theorem main_1_2 : Claimed_1_2 := own_comes fun _ _ _ _ _ _ h hF => ⟨h.2, hF⟩
end Jvm.Pilot.@@N@@
namespace Jvm.Pilot.@@N@@
open Jvm Jvm.ClassFile Sem Op Lib Jvm.Free Jvm.Stand Jvm.Pilot.@@N@@.Jvm.D
/-! MADE BY PROGRAM (witnessworld.py) out of the Statement's table words and the real class files: 18 classes; the members and pool entries that the words name. The judged class is class 1, her method 1. -/
namespace start1
open Jvm.ClassFile
def u (s : String) : CpInfo := .utf8 (stringToUtf16 s)
/-- a pool by its gaps: so many unusable entries, then the entry; so many at the end -/
def gap : Nat → List CpInfo → List CpInfo
  | 0, r => r
  | n + 1, r => .unusable :: gap n r
def poolList (es : List (Nat × CpInfo)) (last : Nat) : List CpInfo := es.foldr (fun e r => gap e.1 (e.2 :: r)) (gap last [])
def pool (es : List (Nat × CpInfo)) (last : Nat) : Array CpInfo := ⟨poolList es last⟩
def fileOf (pool : Array CpInfo) (this : Nat) (attrs : Array Attribute := #[]) (ms : Array MethodInfo := #[]) (fl : Nat := 33) (sup : Nat := 0) (ifs : Array Nat := #[]) (fds : Array FieldInfo := #[]) : ClassFile where
  minorVersion := 0
  majorVersion := 65
  constantPool := pool
  accessFlags := fl
  thisClass := this
  superClass := sup
  interfaces := ifs
  fields := fds
  methods := ms
  attributes := attrs
def plain (name : String) (sup : Option ClassId) : Class where
  name := name
  kind := .ordinary
  loader := none
  accessFlags := 33
  super := sup
  interfaces := #[]
  cf := none
  fields := #[]
  methods := #[]
  instanceTypes := #[]
  staticTypes := #[]
  resolved := #[]
  callSites := []
  init := .initialized
  statics := none
  mirror := none

def pool0 : Array CpInfo := pool [(5, u "<init>"), (0, u "()V"), (1, .class_ 10), (1, u "java/lang/Object")] 113

def k0m0 : Method := { name := "<init>", desc := "()V", sig := { parameters := [], returnType := none }, accessFlags := 1, code := none }
/-- java/lang/Object -/
def k0 : Class := { plain "java/lang/Object" none with
  accessFlags := 33
  interfaces := #[]
  cf := some (fileOf pool0 8 #[] #[{ accessFlags := 1, nameIndex := 5, descriptorIndex := 6, attributes := #[] }] 33 0 #[] #[])
  fields := #[]
  methods := #[k0m0]
  instanceTypes := #[]
  staticTypes := #[]
  resolved := Array.replicate 124 none
  statics := none }

def pool1 : Array CpInfo := pool [(2, .class_ 4), (1, u "java/lang/Object"), (0, u "<init>"), (0, u "()V"), (0, .methodref 8 9), (0, .class_ 10), (0, .nameAndType 11 12), (0, u "com/example/signpost/signpost/model/AttributeSyntax"), (0, u "isReserved"), (0, u "(C)Z"), (0, .methodref 14 15), (0, .class_ 16), (0, .nameAndType 17 12), (0, u "com/example/signpost/signpost/model/AttributeSyntaxIsReservedPinLaw"), (0, u "expected"), (2, u "law"), (0, u "(II)Z")] 3

def k1m0 : Method := { name := "<init>", desc := "()V", sig := { parameters := [], returnType := none }, accessFlags := 2, code := none }
def k1c1 : Code := { maxStack := 2, maxLocals := 3, code := code, exceptionTable := #[], attributes := #[] }
def k1m1 : Method := { name := "law", desc := "(II)Z", sig := { parameters := [.int, .int], returnType := some .boolean }, accessFlags := 9, code := some k1c1 }
def k1c2 : Code := { maxStack := 2, maxLocals := 2, code := method_3_code, exceptionTable := #[], attributes := #[] }
def k1m2 : Method := { name := "expected", desc := "(C)Z", sig := { parameters := [.char], returnType := some .boolean }, accessFlags := 10, code := some k1c2 }
/-- com/example/signpost/signpost/model/AttributeSyntaxIsReservedPinLaw -/
def k1 : Class := { plain "com/example/signpost/signpost/model/AttributeSyntaxIsReservedPinLaw" (some 0) with
  accessFlags := 49
  interfaces := #[]
  cf := some (fileOf pool1 14 #[] #[{ accessFlags := 2, nameIndex := 5, descriptorIndex := 6, attributes := #[] }, { accessFlags := 9, nameIndex := 20, descriptorIndex := 21, attributes := #[] }, { accessFlags := 10, nameIndex := 17, descriptorIndex := 12, attributes := #[] }] 49 2 #[] #[])
  fields := #[]
  methods := #[k1m0, k1m1, k1m2]
  instanceTypes := #[]
  staticTypes := #[]
  resolved := Array.replicate 25 none
  statics := none }

def pool2 : Array CpInfo := pool [(2, .class_ 4), (1, u "java/lang/Object"), (0, u "<init>"), (0, u "()V"), (0, .class_ 8), (0, u "com/example/signpost/signpost/model/AttributeSyntax"), (0, .string 10), (0, u "(),\\!<=>~"), (0, .methodref 12 13), (0, .class_ 14), (0, .nameAndType 15 16), (0, u "java/lang/String"), (0, u "indexOf"), (0, u "(I)I"), (2, u "isReserved"), (0, u "(C)Z"), (148, u "RESERVED"), (0, u "Ljava/lang/String;")] 36

def k2m0 : Method := { name := "<init>", desc := "()V", sig := { parameters := [], returnType := none }, accessFlags := 2, code := none }
def k2c1 : Code := { maxStack := 2, maxLocals := 1, code := prog_9_method_2_code, exceptionTable := #[], attributes := #[] }
def k2m1 : Method := { name := "isReserved", desc := "(C)Z", sig := { parameters := [.char], returnType := some .boolean }, accessFlags := 8, code := some k2c1 }
/-- com/example/signpost/signpost/model/AttributeSyntax -/
def k2 : Class := { plain "com/example/signpost/signpost/model/AttributeSyntax" (some 0) with
  accessFlags := 48
  interfaces := #[]
  cf := some (fileOf pool2 7 #[] #[{ accessFlags := 2, nameIndex := 5, descriptorIndex := 6, attributes := #[] }, { accessFlags := 8, nameIndex := 19, descriptorIndex := 20, attributes := #[] }] 48 2 #[] #[{ accessFlags := 26, nameIndex := 169, descriptorIndex := 170, attributes := #[] }])
  fields := #[{ name := "RESERVED", type := (.object "java/lang/String"), accessFlags := 26, slot := 0, constantValue := 0 }]
  methods := #[k2m0, k2m1]
  instanceTypes := #[]
  staticTypes := #[(.object "java/lang/String")]
  resolved := Array.replicate 207 none
  statics := none }

def pool3 : Array CpInfo := pool [(1, .class_ 2), (0, u "java/io/Serializable"), (0, .class_ 4), (0, u "java/lang/Object")] 2

/-- java/io/Serializable -/
def k3 : Class := { plain "java/io/Serializable" (some 0) with
  accessFlags := 1537
  interfaces := #[]
  cf := some (fileOf pool3 1 #[] #[] 1537 3 #[] #[])
  fields := #[]
  methods := #[]
  instanceTypes := #[]
  staticTypes := #[]
  resolved := Array.replicate 7 none
  statics := none }

def pool4 : Array CpInfo := pool [(1, .class_ 2), (0, u "java/lang/Comparable"), (0, .class_ 4), (0, u "java/lang/Object")] 7

/-- java/lang/Comparable -/
def k4 : Class := { plain "java/lang/Comparable" (some 0) with
  accessFlags := 1537
  interfaces := #[]
  cf := some (fileOf pool4 1 #[] #[] 1537 3 #[] #[])
  fields := #[]
  methods := #[]
  instanceTypes := #[]
  staticTypes := #[]
  resolved := Array.replicate 12 none
  statics := none }

def pool5 : Array CpInfo := pool [(2, .class_ 4), (1, u "java/lang/CharSequence"), (42, .class_ 48), (0, u "java/lang/CharSequence$1CodePointIterator"), (10, .class_ 60), (0, u "java/lang/CharSequence$1CharIterator"), (5, .class_ 67), (0, u "java/lang/Object")] 63

/-- java/lang/CharSequence -/
def k5 : Class := { plain "java/lang/CharSequence" (some 0) with
  accessFlags := 1537
  interfaces := #[]
  cf := some (fileOf pool5 2 #[.nestMembers #[47, 59]] #[] 1537 66 #[] #[])
  fields := #[]
  methods := #[]
  instanceTypes := #[]
  staticTypes := #[]
  resolved := Array.replicate 131 none
  statics := none }

def pool6 : Array CpInfo := pool [(1, .class_ 2), (0, u "java/lang/constant/Constable"), (0, .class_ 4), (0, u "java/lang/Object")] 6

/-- java/lang/constant/Constable -/
def k6 : Class := { plain "java/lang/constant/Constable" (some 0) with
  accessFlags := 1537
  interfaces := #[]
  cf := some (fileOf pool6 1 #[] #[] 1537 3 #[] #[])
  fields := #[]
  methods := #[]
  instanceTypes := #[]
  staticTypes := #[]
  resolved := Array.replicate 11 none
  statics := none }

def pool7 : Array CpInfo := pool [(1, .class_ 2), (0, u "java/lang/constant/ConstantDesc"), (0, .class_ 4), (0, u "java/lang/Object")] 32

/-- java/lang/constant/ConstantDesc -/
def k7 : Class := { plain "java/lang/constant/ConstantDesc" (some 0) with
  accessFlags := 1537
  interfaces := #[]
  cf := some (fileOf pool7 1 #[] #[] 1537 3 #[] #[])
  fields := #[]
  methods := #[]
  instanceTypes := #[]
  staticTypes := #[]
  resolved := Array.replicate 37 none
  statics := none }

def pool8 : Array CpInfo := pool [(2, .class_ 4), (1, u "java/lang/Object"), (0, u "<init>"), (0, u "()V"), (2, .fieldref 10 11), (0, .class_ 12), (0, .nameAndType 13 14), (0, u "java/lang/String"), (0, u "value"), (0, u "[B"), (0, .fieldref 10 16), (0, .nameAndType 17 18), (0, u "coder"), (0, u "B"), (2, u "hash"), (0, u "I"), (2, u "hashIsZero"), (0, u "Z"), (11, .fieldref 10 39), (0, .nameAndType 40 26), (0, u "COMPACT_STRINGS"), (66, .class_ 109), (1, u "java/lang/StringLatin1"), (32, u "()Z"), (191, u "()I"), (0, .methodref 10 336), (0, .nameAndType 17 337), (0, u "()B"), (154, .methodref 10 493), (0, .nameAndType 494 142), (0, u "isLatin1"), (10, .methodref 10 506), (0, .nameAndType 507 334), (0, u "length"), (67, .class_ 576), (0, u "java/lang/CharSequence"), (22, u "CASE_INSENSITIVE_ORDER"), (0, u "Ljava/util/Comparator;"), (32, .methodref 10 634), (0, .nameAndType 635 636), (0, u "indexOf"), (0, u "(II)I"), (0, .methodref 107 638), (0, .nameAndType 635 639), (0, u "([BIII)I"), (125, u "(I)I"), (335, u "serialPersistentFields"), (0, u "[Ljava/io/ObjectStreamField;"), (0, .class_ 1104), (0, u "java/lang/String$CaseInsensitiveComparator"), (1, .class_ 1107), (0, u "java/io/Serializable"), (0, .class_ 1109), (0, u "java/lang/Comparable"), (0, .class_ 1111), (0, u "java/lang/constant/Constable"), (0, .class_ 1113), (0, u "java/lang/constant/ConstantDesc"), (2, u "serialVersionUID"), (0, u "J"), (3, u "REPL"), (0, u "C"), (2, u "LATIN1"), (1, u "UTF16")] 323

def k8m0 : Method := { name := "<init>", desc := "()V", sig := { parameters := [], returnType := none }, accessFlags := 1, code := none }
def k8c1 : Code := { maxStack := 2, maxLocals := 1, code := jdk_42_method_54_code, exceptionTable := #[], attributes := #[] }
def k8m1 : Method := { name := "length", desc := "()I", sig := { parameters := [], returnType := some .int }, accessFlags := 1, code := some k8c1 }
def k8c2 : Code := { maxStack := 3, maxLocals := 2, code := jdk_42_method_79_code, exceptionTable := #[], attributes := #[] }
def k8m2 : Method := { name := "indexOf", desc := "(I)I", sig := { parameters := [.int], returnType := some .int }, accessFlags := 1, code := some k8c2 }
def k8c3 : Code := { maxStack := 4, maxLocals := 3, code := jdk_42_method_80_code, exceptionTable := #[], attributes := #[] }
def k8m3 : Method := { name := "indexOf", desc := "(II)I", sig := { parameters := [.int, .int], returnType := some .int }, accessFlags := 1, code := some k8c3 }
def k8c4 : Code := { maxStack := 1, maxLocals := 1, code := jdk_42_method_152_code, exceptionTable := #[], attributes := #[] }
def k8m4 : Method := { name := "coder", desc := "()B", sig := { parameters := [], returnType := some .byte }, accessFlags := 0, code := some k8c4 }
def k8c5 : Code := { maxStack := 1, maxLocals := 1, code := jdk_42_method_154_code, exceptionTable := #[], attributes := #[] }
def k8m5 : Method := { name := "isLatin1", desc := "()Z", sig := { parameters := [], returnType := some .boolean }, accessFlags := 0, code := some k8c5 }
/-- java/lang/String -/
def k8 : Class := { plain "java/lang/String" (some 0) with
  accessFlags := 49
  interfaces := #[3, 4, 5, 6, 7]
  cf := some (fileOf pool8 10 #[.nestMembers #[1103]] #[{ accessFlags := 1, nameIndex := 5, descriptorIndex := 6, attributes := #[] }, { accessFlags := 1, nameIndex := 507, descriptorIndex := 334, attributes := #[] }, { accessFlags := 1, nameIndex := 635, descriptorIndex := 765, attributes := #[] }, { accessFlags := 1, nameIndex := 635, descriptorIndex := 636, attributes := #[] }, { accessFlags := 0, nameIndex := 17, descriptorIndex := 337, attributes := #[] }, { accessFlags := 0, nameIndex := 494, descriptorIndex := 142, attributes := #[] }] 49 2 #[1106, 1108, 575, 1110, 1112] #[{ accessFlags := 18, nameIndex := 13, descriptorIndex := 14, attributes := #[] }, { accessFlags := 18, nameIndex := 17, descriptorIndex := 18, attributes := #[] }, { accessFlags := 2, nameIndex := 21, descriptorIndex := 22, attributes := #[] }, { accessFlags := 2, nameIndex := 25, descriptorIndex := 26, attributes := #[] }, { accessFlags := 26, nameIndex := 1116, descriptorIndex := 1117, attributes := #[] }, { accessFlags := 24, nameIndex := 40, descriptorIndex := 26, attributes := #[] }, { accessFlags := 26, nameIndex := 1101, descriptorIndex := 1102, attributes := #[] }, { accessFlags := 26, nameIndex := 1121, descriptorIndex := 1122, attributes := #[] }, { accessFlags := 25, nameIndex := 599, descriptorIndex := 600, attributes := #[] }, { accessFlags := 24, nameIndex := 1125, descriptorIndex := 18, attributes := #[] }, { accessFlags := 24, nameIndex := 1127, descriptorIndex := 18, attributes := #[] }])
  fields := #[{ name := "value", type := (.array .byte), accessFlags := 18, slot := 0, constantValue := 0 }, { name := "coder", type := .byte, accessFlags := 18, slot := 1, constantValue := 0 }, { name := "hash", type := .int, accessFlags := 2, slot := 2, constantValue := 0 }, { name := "hashIsZero", type := .boolean, accessFlags := 2, slot := 3, constantValue := 0 }, { name := "serialVersionUID", type := .long, accessFlags := 26, slot := 0, constantValue := 0 }, { name := "COMPACT_STRINGS", type := .boolean, accessFlags := 24, slot := 1, constantValue := 0 }, { name := "serialPersistentFields", type := (.array (.object "java/io/ObjectStreamField")), accessFlags := 26, slot := 2, constantValue := 0 }, { name := "REPL", type := .char, accessFlags := 26, slot := 3, constantValue := 0 }, { name := "CASE_INSENSITIVE_ORDER", type := (.object "java/util/Comparator"), accessFlags := 25, slot := 4, constantValue := 0 }, { name := "LATIN1", type := .byte, accessFlags := 24, slot := 5, constantValue := 0 }, { name := "UTF16", type := .byte, accessFlags := 24, slot := 6, constantValue := 0 }]
  methods := #[k8m0, k8m1, k8m2, k8m3, k8m4, k8m5]
  instanceTypes := #[(.array .byte), .byte, .int, .boolean]
  staticTypes := #[.long, .boolean, (.array (.object "java/io/ObjectStreamField")), .char, (.object "java/util/Comparator"), .byte, .byte]
  resolved := Array.replicate 1451 none
  statics := some 0 }

def pool9 : Array CpInfo := pool [(4, .class_ 6), (1, u "java/lang/Object"), (0, u "<init>"), (0, u "()V"), (5, .class_ 16), (1, u "java/lang/StringLatin1"), (21, .methodref 39 40), (0, .class_ 41), (0, .nameAndType 42 43), (0, u "java/lang/Math"), (0, u "min"), (0, u "(II)I"), (44, .methodref 14 89), (0, .nameAndType 90 91), (0, u "canEncode"), (0, u "(I)Z"), (0, .methodref 39 93), (0, .nameAndType 94 43), (0, u "max"), (0, .methodref 14 96), (0, .nameAndType 97 98), (0, u "indexOfChar"), (0, u "([BIII)I"), (2, u "indexOf"), (19, u "$assertionsDisabled"), (0, u "Z"), (98, .class_ 223), (1, u "java/lang/StringLatin1$LinesSpliterator"), (166, .class_ 391), (0, u "java/lang/StringLatin1$CharsSpliterator")] 3

def k9m0 : Method := { name := "<init>", desc := "()V", sig := { parameters := [], returnType := none }, accessFlags := 0, code := none }
def k9c1 : Code := { maxStack := 2, maxLocals := 1, code := jdk_43_method_4_code, exceptionTable := #[], attributes := #[] }
def k9m1 : Method := { name := "canEncode", desc := "(I)Z", sig := { parameters := [.int], returnType := some .boolean }, accessFlags := 9, code := some k9c1 }
def k9c2 : Code := { maxStack := 4, maxLocals := 4, code := jdk_43_method_22_code, exceptionTable := #[], attributes := #[] }
def k9m2 : Method := { name := "indexOf", desc := "([BIII)I", sig := { parameters := [(.array .byte), .int, .int, .int], returnType := some .int }, accessFlags := 9, code := some k9c2 }
def k9c3 : Code := { maxStack := 2, maxLocals := 6, code := jdk_43_method_23_code, exceptionTable := #[], attributes := #[] }
def k9m3 : Method := { name := "indexOfChar", desc := "([BIII)I", sig := { parameters := [(.array .byte), .int, .int, .int], returnType := some .int }, accessFlags := 10, code := some k9c3 }
/-- java/lang/StringLatin1 -/
def k9 : Class := { plain "java/lang/StringLatin1" (some 0) with
  accessFlags := 48
  interfaces := #[]
  cf := some (fileOf pool9 14 #[.nestMembers #[390, 221]] #[{ accessFlags := 0, nameIndex := 7, descriptorIndex := 8, attributes := #[] }, { accessFlags := 9, nameIndex := 90, descriptorIndex := 91, attributes := #[] }, { accessFlags := 9, nameIndex := 101, descriptorIndex := 98, attributes := #[] }, { accessFlags := 10, nameIndex := 97, descriptorIndex := 98, attributes := #[] }] 48 4 #[] #[{ accessFlags := 4120, nameIndex := 121, descriptorIndex := 122, attributes := #[] }])
  fields := #[{ name := "$assertionsDisabled", type := .boolean, accessFlags := 4120, slot := 0, constantValue := 0 }]
  methods := #[k9m0, k9m1, k9m2, k9m3]
  instanceTypes := #[]
  staticTypes := #[.boolean]
  resolved := Array.replicate 395 none
  statics := none }

def pool10 : Array CpInfo := pool [(1, .class_ 2), (0, u "java/lang/Math"), (1, .class_ 6), (1, u "java/lang/Object"), (0, u "<init>"), (0, u "()V"), (89, .class_ 100), (1, u "java/lang/Math$RandomNumberGeneratorHolder"), (71, u "negativeZeroFloatBits"), (0, u "J"), (2, u "negativeZeroDoubleBits"), (21, u "max"), (2, u "min"), (43, u "$assertionsDisabled"), (0, u "Z"), (88, u "(II)I"), (2, u "twoToTheDoubleScaleDown"), (0, u "D"), (4, u "twoToTheDoubleScaleUp"), (9, u "E"), (3, u "PI"), (2, u "TAU"), (2, u "DEGREES_TO_RADIANS"), (0, u "RADIANS_TO_DEGREES")] 94

def k10m0 : Method := { name := "<init>", desc := "()V", sig := { parameters := [], returnType := none }, accessFlags := 2, code := none }
def k10c1 : Code := { maxStack := 2, maxLocals := 2, code := jdk_29_method_65_code, exceptionTable := #[], attributes := #[] }
def k10m1 : Method := { name := "max", desc := "(II)I", sig := { parameters := [.int, .int], returnType := some .int }, accessFlags := 9, code := some k10c1 }
def k10c2 : Code := { maxStack := 2, maxLocals := 2, code := jdk_29_method_69_code, exceptionTable := #[], attributes := #[] }
def k10m2 : Method := { name := "min", desc := "(II)I", sig := { parameters := [.int, .int], returnType := some .int }, accessFlags := 9, code := some k10c2 }
/-- java/lang/Math -/
def k10 : Class := { plain "java/lang/Math" (some 0) with
  accessFlags := 49
  interfaces := #[]
  cf := some (fileOf pool10 1 #[.nestMembers #[98]] #[{ accessFlags := 2, nameIndex := 7, descriptorIndex := 8, attributes := #[] }, { accessFlags := 9, nameIndex := 198, descriptorIndex := 335, attributes := #[] }, { accessFlags := 9, nameIndex := 201, descriptorIndex := 335, attributes := #[] }] 49 4 #[] #[{ accessFlags := 25, nameIndex := 354, descriptorIndex := 339, attributes := #[] }, { accessFlags := 25, nameIndex := 358, descriptorIndex := 339, attributes := #[] }, { accessFlags := 25, nameIndex := 361, descriptorIndex := 339, attributes := #[] }, { accessFlags := 26, nameIndex := 364, descriptorIndex := 339, attributes := #[] }, { accessFlags := 26, nameIndex := 365, descriptorIndex := 339, attributes := #[] }, { accessFlags := 26, nameIndex := 172, descriptorIndex := 173, attributes := #[] }, { accessFlags := 26, nameIndex := 176, descriptorIndex := 173, attributes := #[] }, { accessFlags := 8, nameIndex := 344, descriptorIndex := 339, attributes := #[] }, { accessFlags := 8, nameIndex := 338, descriptorIndex := 339, attributes := #[] }, { accessFlags := 4120, nameIndex := 245, descriptorIndex := 246, attributes := #[] }])
  fields := #[{ name := "E", type := .double, accessFlags := 25, slot := 0, constantValue := 0 }, { name := "PI", type := .double, accessFlags := 25, slot := 1, constantValue := 0 }, { name := "TAU", type := .double, accessFlags := 25, slot := 2, constantValue := 0 }, { name := "DEGREES_TO_RADIANS", type := .double, accessFlags := 26, slot := 3, constantValue := 0 }, { name := "RADIANS_TO_DEGREES", type := .double, accessFlags := 26, slot := 4, constantValue := 0 }, { name := "negativeZeroFloatBits", type := .long, accessFlags := 26, slot := 5, constantValue := 0 }, { name := "negativeZeroDoubleBits", type := .long, accessFlags := 26, slot := 6, constantValue := 0 }, { name := "twoToTheDoubleScaleUp", type := .double, accessFlags := 8, slot := 7, constantValue := 0 }, { name := "twoToTheDoubleScaleDown", type := .double, accessFlags := 8, slot := 8, constantValue := 0 }, { name := "$assertionsDisabled", type := .boolean, accessFlags := 4120, slot := 9, constantValue := 0 }]
  methods := #[k10m0, k10m1, k10m2]
  instanceTypes := #[]
  staticTypes := #[.double, .double, .double, .double, .double, .long, .long, .double, .double, .boolean]
  resolved := Array.replicate 460 none
  statics := none }

def pool11 : Array CpInfo := pool [(2, .class_ 4), (1, u "java/lang/Object"), (0, u "<init>"), (0, u "()V"), (17, .class_ 26), (1, u "jdk/internal/util/Preconditions"), (28, .class_ 56), (0, u "jdk/internal/util/Preconditions$4"), (57, .class_ 115), (0, u "jdk/internal/util/Preconditions$1"), (7, u "SIOOBE_FORMATTER"), (0, u "Ljava/util/function/BiFunction;"), (0, .class_ 126), (0, u "jdk/internal/util/Preconditions$2"), (3, u "AIOOBE_FORMATTER"), (0, .class_ 132), (0, u "jdk/internal/util/Preconditions$3"), (3, u "IOOBE_FORMATTER")] 57

def k11m0 : Method := { name := "<init>", desc := "()V", sig := { parameters := [], returnType := none }, accessFlags := 1, code := none }
/-- jdk/internal/util/Preconditions -/
def k11 : Class := { plain "jdk/internal/util/Preconditions" (some 0) with
  accessFlags := 33
  interfaces := #[]
  cf := some (fileOf pool11 24 #[.nestMembers #[55, 131, 125, 114]] #[{ accessFlags := 1, nameIndex := 5, descriptorIndex := 6, attributes := #[] }] 33 2 #[] #[{ accessFlags := 25, nameIndex := 123, descriptorIndex := 124, attributes := #[] }, { accessFlags := 25, nameIndex := 130, descriptorIndex := 124, attributes := #[] }, { accessFlags := 25, nameIndex := 136, descriptorIndex := 124, attributes := #[] }])
  fields := #[{ name := "SIOOBE_FORMATTER", type := (.object "java/util/function/BiFunction"), accessFlags := 25, slot := 0, constantValue := 0 }, { name := "AIOOBE_FORMATTER", type := (.object "java/util/function/BiFunction"), accessFlags := 25, slot := 1, constantValue := 0 }, { name := "IOOBE_FORMATTER", type := (.object "java/util/function/BiFunction"), accessFlags := 25, slot := 2, constantValue := 0 }]
  methods := #[k11m0]
  instanceTypes := #[]
  staticTypes := #[(.object "java/util/function/BiFunction"), (.object "java/util/function/BiFunction"), (.object "java/util/function/BiFunction")]
  resolved := Array.replicate 194 none
  statics := some 1 }

def pool12 : Array CpInfo := pool [(9, u "<init>"), (6, .class_ 18), (1, u "java/lang/Object"), (0, u "()V"), (1, .class_ 23), (1, u "jdk/internal/util/ArraysSupport"), (0, u "LOG2_ARRAY_LONG_INDEX_SCALE"), (0, u "I"), (2, u "U"), (0, u "Ljdk/internal/misc/Unsafe;"), (8, u "BIG_ENDIAN"), (0, u "Z"), (8, u "LOG2_BYTE_BIT_SIZE"), (4, u "LOG2_ARRAY_INT_INDEX_SCALE"), (54, u "JLA"), (0, u "Ljdk/internal/access/JavaLangAccess;"), (11, u "LOG2_ARRAY_BOOLEAN_INDEX_SCALE"), (9, u "LOG2_ARRAY_BYTE_INDEX_SCALE"), (5, u "LOG2_ARRAY_CHAR_INDEX_SCALE"), (5, u "LOG2_ARRAY_SHORT_INDEX_SCALE"), (18, u "LOG2_ARRAY_FLOAT_INDEX_SCALE"), (24, u "LOG2_ARRAY_DOUBLE_INDEX_SCALE"), (89, u "T_BOOLEAN"), (2, u "T_CHAR"), (1, u "T_FLOAT"), (1, u "T_DOUBLE"), (1, u "T_BYTE"), (1, u "T_SHORT"), (1, u "T_INT"), (1, u "T_LONG"), (1, u "SOFT_MAX_ARRAY_LENGTH")] 83

def k12m0 : Method := { name := "<init>", desc := "()V", sig := { parameters := [], returnType := none }, accessFlags := 2, code := none }
/-- jdk/internal/util/ArraysSupport -/
def k12 : Class := { plain "jdk/internal/util/ArraysSupport" (some 0) with
  accessFlags := 33
  interfaces := #[]
  cf := some (fileOf pool12 21 #[] #[{ accessFlags := 2, nameIndex := 9, descriptorIndex := 19, attributes := #[] }] 33 16 #[] #[{ accessFlags := 24, nameIndex := 28, descriptorIndex := 29, attributes := #[] }, { accessFlags := 26, nameIndex := 38, descriptorIndex := 39, attributes := #[] }, { accessFlags := 25, nameIndex := 121, descriptorIndex := 25, attributes := #[] }, { accessFlags := 25, nameIndex := 131, descriptorIndex := 25, attributes := #[] }, { accessFlags := 25, nameIndex := 137, descriptorIndex := 25, attributes := #[] }, { accessFlags := 25, nameIndex := 143, descriptorIndex := 25, attributes := #[] }, { accessFlags := 25, nameIndex := 53, descriptorIndex := 25, attributes := #[] }, { accessFlags := 25, nameIndex := 24, descriptorIndex := 25, attributes := #[] }, { accessFlags := 25, nameIndex := 162, descriptorIndex := 25, attributes := #[] }, { accessFlags := 25, nameIndex := 187, descriptorIndex := 25, attributes := #[] }, { accessFlags := 26, nameIndex := 48, descriptorIndex := 25, attributes := #[] }, { accessFlags := 25, nameIndex := 277, descriptorIndex := 25, attributes := #[] }, { accessFlags := 25, nameIndex := 280, descriptorIndex := 25, attributes := #[] }, { accessFlags := 25, nameIndex := 282, descriptorIndex := 25, attributes := #[] }, { accessFlags := 25, nameIndex := 284, descriptorIndex := 25, attributes := #[] }, { accessFlags := 25, nameIndex := 286, descriptorIndex := 25, attributes := #[] }, { accessFlags := 25, nameIndex := 288, descriptorIndex := 25, attributes := #[] }, { accessFlags := 25, nameIndex := 290, descriptorIndex := 25, attributes := #[] }, { accessFlags := 25, nameIndex := 292, descriptorIndex := 25, attributes := #[] }, { accessFlags := 26, nameIndex := 108, descriptorIndex := 109, attributes := #[] }, { accessFlags := 25, nameIndex := 294, descriptorIndex := 25, attributes := #[] }])
  fields := #[{ name := "U", type := (.object "jdk/internal/misc/Unsafe"), accessFlags := 24, slot := 0, constantValue := 0 }, { name := "BIG_ENDIAN", type := .boolean, accessFlags := 26, slot := 1, constantValue := 0 }, { name := "LOG2_ARRAY_BOOLEAN_INDEX_SCALE", type := .int, accessFlags := 25, slot := 2, constantValue := 0 }, { name := "LOG2_ARRAY_BYTE_INDEX_SCALE", type := .int, accessFlags := 25, slot := 3, constantValue := 0 }, { name := "LOG2_ARRAY_CHAR_INDEX_SCALE", type := .int, accessFlags := 25, slot := 4, constantValue := 0 }, { name := "LOG2_ARRAY_SHORT_INDEX_SCALE", type := .int, accessFlags := 25, slot := 5, constantValue := 0 }, { name := "LOG2_ARRAY_INT_INDEX_SCALE", type := .int, accessFlags := 25, slot := 6, constantValue := 0 }, { name := "LOG2_ARRAY_LONG_INDEX_SCALE", type := .int, accessFlags := 25, slot := 7, constantValue := 0 }, { name := "LOG2_ARRAY_FLOAT_INDEX_SCALE", type := .int, accessFlags := 25, slot := 8, constantValue := 0 }, { name := "LOG2_ARRAY_DOUBLE_INDEX_SCALE", type := .int, accessFlags := 25, slot := 9, constantValue := 0 }, { name := "LOG2_BYTE_BIT_SIZE", type := .int, accessFlags := 26, slot := 10, constantValue := 0 }, { name := "T_BOOLEAN", type := .int, accessFlags := 25, slot := 11, constantValue := 0 }, { name := "T_CHAR", type := .int, accessFlags := 25, slot := 12, constantValue := 0 }, { name := "T_FLOAT", type := .int, accessFlags := 25, slot := 13, constantValue := 0 }, { name := "T_DOUBLE", type := .int, accessFlags := 25, slot := 14, constantValue := 0 }, { name := "T_BYTE", type := .int, accessFlags := 25, slot := 15, constantValue := 0 }, { name := "T_SHORT", type := .int, accessFlags := 25, slot := 16, constantValue := 0 }, { name := "T_INT", type := .int, accessFlags := 25, slot := 17, constantValue := 0 }, { name := "T_LONG", type := .int, accessFlags := 25, slot := 18, constantValue := 0 }, { name := "JLA", type := (.object "jdk/internal/access/JavaLangAccess"), accessFlags := 26, slot := 19, constantValue := 0 }, { name := "SOFT_MAX_ARRAY_LENGTH", type := .int, accessFlags := 25, slot := 20, constantValue := 0 }]
  methods := #[k12m0]
  instanceTypes := #[]
  staticTypes := #[(.object "jdk/internal/misc/Unsafe"), .boolean, .int, .int, .int, .int, .int, .int, .int, .int, .int, .int, .int, .int, .int, .int, .int, .int, .int, (.object "jdk/internal/access/JavaLangAccess"), .int]
  resolved := Array.replicate 378 none
  statics := none }

def pool13 : Array CpInfo := pool [(1, u "java/lang/Cloneable"), (0, .class_ 1), (0, u "java/lang/Object"), (0, .class_ 3)] 3

/-- java/lang/Cloneable -/
def k13 : Class := { plain "java/lang/Cloneable" (some 0) with
  accessFlags := 1537
  interfaces := #[]
  cf := some (fileOf pool13 2 #[] #[] 1537 4 #[] #[])
  fields := #[]
  methods := #[]
  instanceTypes := #[]
  staticTypes := #[]
  resolved := Array.replicate 8 none
  statics := none }

/-- the primitive byte -/
def k14 : Class := { plain "byte" none with kind := .primitive 'B', accessFlags := 0x411 }
/-- [B -/
def k15 : Class := { plain "[B" (some 0) with kind := .array 14 .byte, interfaces := #[13, 3], accessFlags := 1041 }

/-- the primitive int -/
def k16 : Class := { plain "int" none with kind := .primitive 'I', accessFlags := 0x411 }
/-- [I -/
def k17 : Class := { plain "[I" (some 0) with kind := .array 16 .int, interfaces := #[13, 3], accessFlags := 1041 }

def heap : Heap := #[{ cls := 8, slots := #[.long 0, .int 1, .null, .int 0, .null, .int 0, .int 0], vm := .statics 8 },
  { cls := 11, slots := #[.null, .null, .null], vm := .statics 11 }]
def classes : Array Class := #[k0, k1, k2, k3, k4, k5, k6, k7, k8, k9, k10, k11, k12, k13, k14, k15, k16, k17]
def interned : List (Array UInt16 × Addr) := []
def slotsUsed : Nat := 10
def theMethod : MethodId := ⟨1, 1⟩
def args0 : Array Value := #[.int 65, .int 1]
def aboutOver (below : List Frame) : State where
  vm := { classes := classes, interned := interned.toArray }
  heap := heap
  slotsUsed := slotsUsed
  threads := #[{ frames := .invoking theMethod args0 :: below }]
def below0 : List Frame := [.native { method := ⟨0, 0⟩, args := #[] }]
def about1 : State := aboutOver below0
def p0 : Program := .bare "" "" ""
def e0 : Env := launch0.env 0 0 0
theorem w_frames : about1.frames = Frame.invoking theMethod args0 :: below0 := rfl
set_option maxRecDepth 65536 in
theorem w_args : argsFit about1.vm theMethod args0 = true := by decide +kernel
set_option maxRecDepth 65536 in
theorem w_heap : heapFits about1 = true := by decide +kernel
set_option maxRecDepth 65536 in
theorem w_runnable : about1.curStatus? = some .runnable := by decide +kernel
set_option maxRecDepth 65536 in
theorem w_alone : about1.alone = true := by decide +kernel
set_option maxRecDepth 65536 in
theorem w_named : about1.methodNamed? x = some theMethod := by decide +kernel
set_option maxRecDepth 65536 in
theorem w_hears : about1.hears theMethod below0 = true := by decide +kernel
set_option maxRecDepth 65536 in
theorem w_ripe : about1.ripe theMethod args0 below0 = true := by decide +kernel
theorem w_running : about1.status = .running := rfl
set_option maxRecDepth 65536 in
theorem w_room : about1.hasRoom e0.platform room_1 = true :=
  launch0.hasRoom_least _ room_1 (by decide +kernel) (by decide +kernel) (by decide +kernel) (by decide +kernel) (by decide +kernel) (by decide +kernel)
theorem allAtoms_all (ts : List Jvm.Cond) (a : Array Jvm.Value) (st : Jvm.State) : (allAtoms ts).before a st = ts.all (fun c => c.before a st) := by
  induction ts with
  | nil => rfl
  | cons c t ih =>
    show (Jvm.Cond.and c (allAtoms t)).before a st = _
    rw [Jvm.Cond.before_and, ih, List.all_cons]
def words1 : List Jvm.Cond := Jvm.Cond.code x code maxLocals ret :: tables_1
/-- a 'code' word, met by the world's own term for the bytes: nothing is compared byte by byte -/
theorem code_word {y : MethodName} {bytes : ByteArray} {mx : Nat} {rt : Option FieldType} {a : Array Value} {s : State} {m : MethodId} {meth : Method} {c : Code} (h1 : s.methodNamed? y = some m) (h2 : s.vm.method? m = some meth) (h3 : meth.code = some c) (h4 : c.code = bytes)
    (h5 : (c.maxLocals == mx && c.exceptionTable.isEmpty && decide (c.maxStack ≤ mostOperands) && decide (meth.sig.returnType = rt) && !meth.locks && decide (parseMethodDescriptor y.desc = some meth.sig)) = true) : (Jvm.Cond.code y bytes mx rt).before a s = true := by
  simp only [Bool.and_eq_true, beq_iff_eq, Bool.not_eq_true', decide_eq_true_eq] at h5
  obtain ⟨⟨⟨⟨⟨g1, g2⟩, g3⟩, g4⟩, g5⟩, g6⟩ := h5
  simp [Cond.before, Cond.holds, Cond.value, h1, h2, h3, h4, g1, g2, g3, g4, g5, g6]
def isCode : Jvm.Cond → Bool
  | .code _ _ _ _ => true
  | _ => false
theorem all_split {L : List Jvm.Cond} {P : Jvm.Cond → Bool} (h1 : L.all (fun c => isCode c || P c) = true) (h2 : ∀ c ∈ L.filter isCode, P c = true) : L.all P = true := by
  refine List.all_eq_true.mpr fun c hc => ?_
  have h := List.all_eq_true.mp h1 c hc
  rcases Bool.eq_false_or_eq_true (isCode c) with hi | hi
  · exact h2 c (List.mem_filter.mpr ⟨hc, hi⟩)
  · simpa [hi] using h
set_option maxRecDepth 65536 in
theorem w_c0 : (Jvm.Cond.code x code maxLocals ret).before args0 about1 = true := code_word (m := ⟨1, 1⟩) (meth := k1m1) (c := k1c1) (by decide +kernel) rfl rfl rfl (by decide +kernel)
set_option maxRecDepth 65536 in
theorem w_c1 : (Jvm.Cond.code ({ cls := "com/example/signpost/signpost/model/AttributeSyntax", name := "isReserved", desc := "(C)Z" } : Jvm.MethodName) prog_9_method_2_code (1 : Nat) (Option.some Jvm.ClassFile.FieldType.boolean)).before args0 about1 = true := code_word (m := ⟨2, 1⟩) (meth := k2m1) (c := k2c1) (by decide +kernel) rfl rfl rfl (by decide +kernel)
set_option maxRecDepth 65536 in
theorem w_c2 : (Jvm.Cond.code ({ cls := "com/example/signpost/signpost/model/AttributeSyntaxIsReservedPinLaw", name := "expected", desc := "(C)Z" } : Jvm.MethodName) method_3_code (2 : Nat) (Option.some Jvm.ClassFile.FieldType.boolean)).before args0 about1 = true := code_word (m := ⟨1, 2⟩) (meth := k1m2) (c := k1c2) (by decide +kernel) rfl rfl rfl (by decide +kernel)
set_option maxRecDepth 65536 in
theorem w_c3 : (Jvm.Cond.code ({ cls := "java/lang/String", name := "indexOf", desc := "(I)I" } : Jvm.MethodName) jdk_42_method_79_code (2 : Nat) (Option.some Jvm.ClassFile.FieldType.int)).before args0 about1 = true := code_word (m := ⟨8, 2⟩) (meth := k8m2) (c := k8c2) (by decide +kernel) rfl rfl rfl (by decide +kernel)
set_option maxRecDepth 65536 in
theorem w_c4 : (Jvm.Cond.code ({ cls := "java/lang/String", name := "indexOf", desc := "(II)I" } : Jvm.MethodName) jdk_42_method_80_code (3 : Nat) (Option.some Jvm.ClassFile.FieldType.int)).before args0 about1 = true := code_word (m := ⟨8, 3⟩) (meth := k8m3) (c := k8c3) (by decide +kernel) rfl rfl rfl (by decide +kernel)
set_option maxRecDepth 65536 in
theorem w_c5 : (Jvm.Cond.code ({ cls := "java/lang/String", name := "isLatin1", desc := "()Z" } : Jvm.MethodName) jdk_42_method_154_code (1 : Nat) (Option.some Jvm.ClassFile.FieldType.boolean)).before args0 about1 = true := code_word (m := ⟨8, 5⟩) (meth := k8m5) (c := k8c5) (by decide +kernel) rfl rfl rfl (by decide +kernel)
set_option maxRecDepth 65536 in
theorem w_c6 : (Jvm.Cond.code ({ cls := "java/lang/String", name := "length", desc := "()I" } : Jvm.MethodName) jdk_42_method_54_code (1 : Nat) (Option.some Jvm.ClassFile.FieldType.int)).before args0 about1 = true := code_word (m := ⟨8, 1⟩) (meth := k8m1) (c := k8c1) (by decide +kernel) rfl rfl rfl (by decide +kernel)
set_option maxRecDepth 65536 in
theorem w_c7 : (Jvm.Cond.code ({ cls := "java/lang/String", name := "coder", desc := "()B" } : Jvm.MethodName) jdk_42_method_152_code (1 : Nat) (Option.some Jvm.ClassFile.FieldType.byte)).before args0 about1 = true := code_word (m := ⟨8, 4⟩) (meth := k8m4) (c := k8c4) (by decide +kernel) rfl rfl rfl (by decide +kernel)
set_option maxRecDepth 65536 in
theorem w_c8 : (Jvm.Cond.code ({ cls := "java/lang/StringLatin1", name := "indexOf", desc := "([BIII)I" } : Jvm.MethodName) jdk_43_method_22_code (4 : Nat) (Option.some Jvm.ClassFile.FieldType.int)).before args0 about1 = true := code_word (m := ⟨9, 2⟩) (meth := k9m2) (c := k9c2) (by decide +kernel) rfl rfl rfl (by decide +kernel)
set_option maxRecDepth 65536 in
theorem w_c9 : (Jvm.Cond.code ({ cls := "java/lang/StringLatin1", name := "canEncode", desc := "(I)Z" } : Jvm.MethodName) jdk_43_method_4_code (1 : Nat) (Option.some Jvm.ClassFile.FieldType.boolean)).before args0 about1 = true := code_word (m := ⟨9, 1⟩) (meth := k9m1) (c := k9c1) (by decide +kernel) rfl rfl rfl (by decide +kernel)
set_option maxRecDepth 65536 in
theorem w_c10 : (Jvm.Cond.code ({ cls := "java/lang/Math", name := "max", desc := "(II)I" } : Jvm.MethodName) jdk_29_method_65_code (2 : Nat) (Option.some Jvm.ClassFile.FieldType.int)).before args0 about1 = true := code_word (m := ⟨10, 1⟩) (meth := k10m1) (c := k10c1) (by decide +kernel) rfl rfl rfl (by decide +kernel)
set_option maxRecDepth 65536 in
theorem w_c11 : (Jvm.Cond.code ({ cls := "java/lang/Math", name := "min", desc := "(II)I" } : Jvm.MethodName) jdk_29_method_69_code (2 : Nat) (Option.some Jvm.ClassFile.FieldType.int)).before args0 about1 = true := code_word (m := ⟨10, 2⟩) (meth := k10m2) (c := k10c2) (by decide +kernel) rfl rfl rfl (by decide +kernel)
set_option maxRecDepth 65536 in
theorem w_c12 : (Jvm.Cond.code ({ cls := "java/lang/StringLatin1", name := "indexOfChar", desc := "([BIII)I" } : Jvm.MethodName) jdk_43_method_23_code (6 : Nat) (Option.some Jvm.ClassFile.FieldType.int)).before args0 about1 = true := code_word (m := ⟨9, 3⟩) (meth := k9m3) (c := k9c3) (by decide +kernel) rfl rfl rfl (by decide +kernel)
def codes1 : List Jvm.Cond := [Jvm.Cond.code x code maxLocals ret, Jvm.Cond.code ({ cls := "com/example/signpost/signpost/model/AttributeSyntax", name := "isReserved", desc := "(C)Z" } : Jvm.MethodName) prog_9_method_2_code (1 : Nat) (Option.some Jvm.ClassFile.FieldType.boolean), Jvm.Cond.code ({ cls := "com/example/signpost/signpost/model/AttributeSyntaxIsReservedPinLaw", name := "expected", desc := "(C)Z" } : Jvm.MethodName) method_3_code (2 : Nat) (Option.some Jvm.ClassFile.FieldType.boolean), Jvm.Cond.code ({ cls := "java/lang/String", name := "indexOf", desc := "(I)I" } : Jvm.MethodName) jdk_42_method_79_code (2 : Nat) (Option.some Jvm.ClassFile.FieldType.int), Jvm.Cond.code ({ cls := "java/lang/String", name := "indexOf", desc := "(II)I" } : Jvm.MethodName) jdk_42_method_80_code (3 : Nat) (Option.some Jvm.ClassFile.FieldType.int), Jvm.Cond.code ({ cls := "java/lang/String", name := "isLatin1", desc := "()Z" } : Jvm.MethodName) jdk_42_method_154_code (1 : Nat) (Option.some Jvm.ClassFile.FieldType.boolean), Jvm.Cond.code ({ cls := "java/lang/String", name := "length", desc := "()I" } : Jvm.MethodName) jdk_42_method_54_code (1 : Nat) (Option.some Jvm.ClassFile.FieldType.int), Jvm.Cond.code ({ cls := "java/lang/String", name := "coder", desc := "()B" } : Jvm.MethodName) jdk_42_method_152_code (1 : Nat) (Option.some Jvm.ClassFile.FieldType.byte), Jvm.Cond.code ({ cls := "java/lang/StringLatin1", name := "indexOf", desc := "([BIII)I" } : Jvm.MethodName) jdk_43_method_22_code (4 : Nat) (Option.some Jvm.ClassFile.FieldType.int), Jvm.Cond.code ({ cls := "java/lang/StringLatin1", name := "canEncode", desc := "(I)Z" } : Jvm.MethodName) jdk_43_method_4_code (1 : Nat) (Option.some Jvm.ClassFile.FieldType.boolean), Jvm.Cond.code ({ cls := "java/lang/Math", name := "max", desc := "(II)I" } : Jvm.MethodName) jdk_29_method_65_code (2 : Nat) (Option.some Jvm.ClassFile.FieldType.int), Jvm.Cond.code ({ cls := "java/lang/Math", name := "min", desc := "(II)I" } : Jvm.MethodName) jdk_29_method_69_code (2 : Nat) (Option.some Jvm.ClassFile.FieldType.int), Jvm.Cond.code ({ cls := "java/lang/StringLatin1", name := "indexOfChar", desc := "([BIII)I" } : Jvm.MethodName) jdk_43_method_23_code (6 : Nat) (Option.some Jvm.ClassFile.FieldType.int)]
set_option maxRecDepth 65536 in
theorem codes_eq : words1.filter isCode = codes1 := rfl
theorem w_codes : ∀ c ∈ words1.filter isCode, c.before args0 about1 = true := by
  rw [codes_eq]
  intro c hc
  simp only [codes1, List.mem_cons, List.not_mem_nil, or_false] at hc
  rcases hc with rfl | rfl | rfl | rfl | rfl | rfl | rfl | rfl | rfl | rfl | rfl | rfl | rfl
  · exact w_c0
  · exact w_c1
  · exact w_c2
  · exact w_c3
  · exact w_c4
  · exact w_c5
  · exact w_c6
  · exact w_c7
  · exact w_c8
  · exact w_c9
  · exact w_c10
  · exact w_c11
  · exact w_c12
set_option maxRecDepth 65536 in
theorem w_t1 : (words1.take 24).all (fun c => isCode c || c.before args0 about1) = true := by decide +kernel
set_option maxRecDepth 65536 in
theorem w_t2 : ((words1.drop 24).take 24).all (fun c => isCode c || c.before args0 about1) = true := by decide +kernel
set_option maxRecDepth 65536 in
theorem w_t3 : ((words1.drop 24).drop 24).all (fun c => isCode c || c.before args0 about1) = true := by decide +kernel
theorem w_tables : (allAtoms (Jvm.Cond.code x code maxLocals ret :: tables_1)).before args0 about1 = true := by
  rw [allAtoms_all]
  show words1.all (fun c => c.before args0 about1) = true
  refine all_split ?_ w_codes
  rw [← List.take_append_drop 24 words1, List.all_append, w_t1, ← List.take_append_drop 24 (words1.drop 24), List.all_append, w_t2, w_t3]
  rfl
set_option maxRecDepth 65536 in
theorem w_rest : rest_1_c.before args0 about1 = true := by decide +kernel
set_option maxRecDepth 65536 in
theorem w_case : (Jvm.Cond.and given_1 narrow_1).before args0 about1 = true := by decide +kernel
set_option maxRecDepth 65536 in
theorem w_consts : constsHeld consts_1 about1 := Jvm.Lit.constsHeldB_iff.mp (by decide +kernel)
theorem w_applies : (headSpec (Jvm.Cond.code x code maxLocals ret :: tables_1) room_1).applies x e0.platform about1 = true :=
  (Spec.applies_iff w_frames).mpr ⟨w_running, w_runnable, w_alone, w_named, w_hears, w_ripe, w_room, w_tables⟩
theorem atStart : AtStart classFile x code maxLocals ret World_1 tables_1 room_1 Calls_1 rest_1 Pre_1 launch0 p0 e0 about1 theMethod args0 below0 :=
  ⟨lists_1, trivial, launch0.admits_env _ _ _, launch0.least_env, fairChoices_fair.cas, fairChoices_fair.clock, w_frames, w_args, w_heap, w_applies, ⟨w_consts, trivial⟩, w_rest, w_case⟩
end start1
theorem witness_1 : WitnessClaimed_1 := ⟨start1.p0, start1.e0, start1.about1, start1.theMethod, start1.args0, start1.below0, start1.atStart⟩
end Jvm.Pilot.@@N@@
