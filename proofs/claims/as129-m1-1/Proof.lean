import JvmDerived
import JvmDerived.Pilot.@@N@@Statement
import JvmDerived.Pilot.@@N@@Code
set_option linter.unusedVariables false
set_option linter.unusedSimpArgs false
namespace Jvm.RoadKit
open Sem ClassFile Op Lib Jvm.Stand Jvm.Free Jvm.LawKit
section New
variable {p : Program} {l : Launch} {e : Env} {R : Room} {s : State} {m : MethodId} {args : Array Value} {below : List Frame} {meth : Method} {c : Code} {T : State} {locs : List Loc} {cells slots : Nat}
theorem retI (X : Stand p l e R s m args below meth c T locs cells slots) (hx : p.tables.exec = Jvm.exec) {pc : Nat} {Ls : Array Slot} {z : Int32} {rest : List Value} (hret : meth.sig.returnType = some .int) (hd : decode c.code pc = .ok (.ireturn, 1)) {fs : List Frame}
    (hl : ∀ (f : JFrame) (acts : List Action), f.method = m → f.locked = none → f.entered = [] → (doReturn e (T.setTop f) acts (some (.int z))).1 = T.setFrames fs) : Steps p.tables e below (T.setTop (mkF m pc Ls (.int z :: rest))) (T.setFrames fs) := by
  have hm' : T.vm.method? m = some meth := X.method'
  have hn : narrow .int (.int z) = .int z := rfl
  show Steps p.tables e below (T.setTop { method := m, pc := pc, locals := Ls, stack := _ :: rest, locked := none }) _
  jvm_step X.here [X.here.top, hx, hd, hm', hret, hn]
  first | (intro acts; rw [hl _ acts rfl rfl rfl]) | rw [hl _ _ rfl rfl rfl]
  exact Steps.refl _
end New
end Jvm.RoadKit
namespace Jvm.Pilot.@@N@@
open Jvm Jvm.ClassFile Sem Op Lib Jvm.Free Jvm.Stand Jvm.LawKit Jvm.RoadKit Bundle Jvm.Pilot.@@N@@.Jvm.D
/-- what spend answers, what it leaves, what has answers -/
def own_sp (q : Int64) : Int32 := if (0 : Int64) < q then 1 else 0
def own_left (q : Int64) : Int64 := if (0 : Int64) < q then q - 1 else q
def own_has (q : Int64) (k : Int32) : Int32 := if q < k.toInt64 then 0 else 1
theorem own_left_of {q w : Int64} {v : Int32} (hv : v = if (0 : Int64) < q then (1 : Int32) else (0 : Int32)) (hw : w = if v = (0 : Int32) then q else (q - (1 : Int64))) : w = own_left q := by
  unfold own_left
  by_cases h : (0 : Int64) < q
  · rw [if_pos h] at hv; subst hv; rw [if_neg (by decide)] at hw; rw [if_pos h]; exact hw
  · rw [if_neg h] at hv; subst hv; rw [if_pos rfl] at hw; rw [if_neg h]; exact hw
theorem own_d_prog_68_method_1_0 : decode prog_68_method_1_code 0 = .ok (.aload_n 0, 1) := by decide +kernel
theorem own_d_prog_68_method_1_1 : decode prog_68_method_1_code 1 = .ok (.invokespecial 1, 3) := by decide +kernel
theorem own_d_prog_68_method_1_4 : decode prog_68_method_1_code 4 = .ok (.aload_n 0, 1) := by decide +kernel
theorem own_d_prog_68_method_1_5 : decode prog_68_method_1_code 5 = .ok (.lload_n 1, 1) := by decide +kernel
theorem own_d_prog_68_method_1_6 : decode prog_68_method_1_code 6 = .ok (.putfield 7, 3) := by decide +kernel
theorem own_d_prog_68_method_1_9 : decode prog_68_method_1_code 9 = .ok (.return_, 1) := by decide +kernel
theorem own_pn0 : plainName "com/example/shardd/shardd/core/MoveBudget" = true := by first | (simp [plainName, overriddenIn]; done) | decide +kernel
theorem own_ef_init (m : MethodId) (x0 : Addr) (x1 : Int64) : entryFrame m #[(.ref x0), (.long x1)] 3 = mkF m 0 #[.val (.ref x0), .val (.long x1), .second] [] := by first | (simp [entryFrame, mkF, argsToLocals, Value.category]; done) | rfl
def own_Q_init (Z : State) (a1 : Addr) (q1 : Int64)  (h0 : Heap) (n0 : Nat) (v : Option Value) (h : Heap) (L : List Loc) : Prop := v = none ∧ Fr n0 L ∧ Exa Z h a1 "com/example/shardd/shardd/core/MoveBudget" ∧ Fld Z h a1 "com/example/shardd/shardd/core/MoveBudget" "left" "J" (.long q1) ∧ n0 ≤ h.size
set_option maxRecDepth 65536 in
set_option maxHeartbeats 40000000 in
theorem own_rm_init (l : Launch) (Z : State) (a0 : Array Value) (hw : ∀ d ∈ tables_1, d.before a0 Z = true) (ws : List Jvm.Cond) (a1 : Addr) (q1 : Int64)  (h0 : Heap) (n0 : Nat) (Z0 : n0 ≤ h0.size) (F0 : Fld Z h0 a1 "com/example/shardd/shardd/core/MoveBudget" "left" "J" (.long (0 : Int64))) (E0 : Exa Z h0 a1 "com/example/shardd/shardd/core/MoveBudget") (g0 : n0 ≤ a1) :
    MetFree l (⟨"com/example/shardd/shardd/core/MoveBudget", "<init>", "(J)V"⟩ : MethodName) (head1 (Jvm.Cond.code (⟨"com/example/shardd/shardd/core/MoveBudget", "<init>", "(J)V"⟩ : MethodName) prog_68_method_1_code 3 none :: ws) ({ frames := 1, cells := 0, slots := 0, locals := 12 } : Room)) (fun a U => a = #[(.ref a1), (.long q1)] ∧ Z.Warmed39 U.vm ∧ U.heap = h0) (fun _ _ _ _ _ => True) (fun _ U o U' => ∃ v L, o = .returned v ∧ own_Q_init Z a1 q1  h0 n0 v U'.heap L ∧ FrameEnd U o U' L ({ frames := 1, cells := 0, slots := 0, locals := 12 } : Room).cells ({ frames := 1, cells := 0, slots := 0, locals := 12 } : Room).slots) := by
  refine MetFree.of_bodySF (plainFor_of_name own_pn0) hisR ?_
  intro p e s m args below meth c s₁ Bd hml0 hP hK
  obtain ⟨rfl, hZ, hh⟩ := hP
  have hx := Bd.exec
  have hby := Bd.bytes
  have hml : c.maxLocals = 3 := hml0
  have hown : s.vm.findClass "com/example/shardd/shardd/core/MoveBudget" = some m.cls := findClass_of_methodNamed Bd.named
  have hnm := (name_of_methodNamed Bd.named Bd.method).1
  have X0 : Stand p l e ({ frames := 1, cells := 0, slots := 0, locals := 12 } : Room) s m #[(.ref a1), (.long q1)] below meth c s₁ [] 0 0 := Stand.of_body Bd
  have e0 : s₁.heap = h0 := by rw [← hh, Bd.state]; rfl
  have N0 := Fr.nil n0
  have pre0 : ∀ t, Steps p.tables e below (s₁.setTop (mkF m 0 #[.val (.ref a1), .val (.long q1), .second] [])) t → Steps p.tables e below (s₁.setTop (entryFrame m #[(.ref a1), (.long q1)] 3)) t := fun t k => castTop (own_ef_init m a1 q1) k
  obtain ⟨T1, X1, e1, st1⟩ := initO X0 hx hZ hown (hw _ (List.mem_of_getElem? (i := 6) rfl)) (hw _ (List.mem_of_getElem? (i := 7) rfl)) (hw _ (List.mem_of_getElem? (i := 8) rfl)) e0 (g := (mkF m 1 #[.val (.ref a1), .val (.long q1), .second] [(.ref a1)])) rfl (by rw [hml]; rfl) rfl (hb hby own_d_prog_68_method_1_1) (by decide) (W := 0) (by show 2 * 0 + _ ≤ _; exact Nat.le_of_eq rfl) (by decide)
  obtain ⟨T2, h2, X2, e2, W2, st2⟩ := putF X1 hx hZ hown (host := "") (Or.inl (hw _ (List.mem_of_getElem? (i := 9) rfl))) Via.refl e1 F0 E0 (Or.inl (hw _ (List.mem_of_getElem? (i := 10) rfl))) (hw _ (List.mem_of_getElem? (i := 1) rfl)) (ty := .long) (by decide) rfl rfl (g := (mkF m 6 #[.val (.ref a1), .val (.long q1), .second] [(.long q1), (.ref a1)])) rfl rfl (hb hby own_d_prog_68_method_1_6)
  have E2_a1 := E0.wr W2
  have Fw2_a1_left := F0.same W2
  have N2 := Fr.snoc X2 N0 g0
  have Z2 := Nat.le_trans Z0 (Keep.of_wr W2).1
  obtain ⟨fs, hr, hrun, hended, hW, hsame⟩ := X2.leave (v := none) (fun _ => rfl)
  refine ⟨_, _, pre0 _ ?_, hrun, hended, _, _, rfl, ?_, ⟨_, rfl⟩, hW, hsame.mono (by decide) (by decide)⟩
  · show Steps p.tables e below (s₁.setTop (mkF m 0 #[.val (.ref a1), .val (.long q1), .second] [])) _
    refine XS.aloadN X0.here hx rfl (hb hby own_d_prog_68_method_1_0) rfl rfl ?_
    show Steps p.tables e below (s₁.setTop (mkF m 1 #[.val (.ref a1), .val (.long q1), .second] [(.ref a1)])) _
    refine st1 _ ?_
    show Steps p.tables e below (T1.setTop (mkF m 4 #[.val (.ref a1), .val (.long q1), .second] [])) _
    refine XS.aloadN X1.here hx rfl (hb hby own_d_prog_68_method_1_4) rfl rfl ?_
    show Steps p.tables e below (T1.setTop (mkF m 5 #[.val (.ref a1), .val (.long q1), .second] [(.ref a1)])) _
    refine XS.lloadN X1.here hx rfl (hb hby own_d_prog_68_method_1_5) rfl ?_
    show Steps p.tables e below (T1.setTop (mkF m 6 #[.val (.ref a1), .val (.long q1), .second] [(.long q1), (.ref a1)])) _
    refine st2 _ ?_
    show Steps p.tables e below (T2.setTop (mkF m 9 #[.val (.ref a1), .val (.long q1), .second] [])) _
    exact X2.returnOut hx Bd.returns (hb hby own_d_prog_68_method_1_9) hr
  · show own_Q_init Z a1 q1  h0 n0 _ T2.heap _
    rw [e2]
    exact ⟨rfl, N2, E2_a1, Fw2_a1_left, Z2⟩
theorem own_d_prog_68_method_4_0 : decode prog_68_method_4_code 0 = .ok (.aload_n 0, 1) := by decide +kernel
theorem own_d_prog_68_method_4_1 : decode prog_68_method_4_code 1 = .ok (.getfield 7, 3) := by decide +kernel
theorem own_d_prog_68_method_4_4 : decode prog_68_method_4_code 4 = .ok (.lconst 0, 1) := by decide +kernel
theorem own_d_prog_68_method_4_5 : decode prog_68_method_4_code 5 = .ok (.lcmp, 1) := by decide +kernel
theorem own_d_prog_68_method_4_6 : decode prog_68_method_4_code 6 = .ok (.ifCond .le 7, 3) := by decide +kernel
theorem own_d_prog_68_method_4_9 : decode prog_68_method_4_code 9 = .ok (.iconst 1, 1) := by decide +kernel
theorem own_d_prog_68_method_4_10 : decode prog_68_method_4_code 10 = .ok (.goto 4, 3) := by decide +kernel
theorem own_d_prog_68_method_4_14 : decode prog_68_method_4_code 14 = .ok (.istore_n 1, 1) := by decide +kernel
theorem own_d_prog_68_method_4_15 : decode prog_68_method_4_code 15 = .ok (.iload_n 1, 1) := by decide +kernel
theorem own_d_prog_68_method_4_16 : decode prog_68_method_4_code 16 = .ok (.ifCond .eq 13, 3) := by decide +kernel
theorem own_d_prog_68_method_4_19 : decode prog_68_method_4_code 19 = .ok (.aload_n 0, 1) := by decide +kernel
theorem own_d_prog_68_method_4_20 : decode prog_68_method_4_code 20 = .ok (.dup, 1) := by decide +kernel
theorem own_d_prog_68_method_4_21 : decode prog_68_method_4_code 21 = .ok (.getfield 7, 3) := by decide +kernel
theorem own_d_prog_68_method_4_24 : decode prog_68_method_4_code 24 = .ok (.lconst 1, 1) := by decide +kernel
theorem own_d_prog_68_method_4_25 : decode prog_68_method_4_code 25 = .ok (.lsub, 1) := by decide +kernel
theorem own_d_prog_68_method_4_26 : decode prog_68_method_4_code 26 = .ok (.putfield 7, 3) := by decide +kernel
theorem own_d_prog_68_method_4_29 : decode prog_68_method_4_code 29 = .ok (.iload_n 1, 1) := by decide +kernel
theorem own_d_prog_68_method_4_30 : decode prog_68_method_4_code 30 = .ok (.ireturn, 1) := by decide +kernel
theorem own_ef_spend (m : MethodId) (x0 : Addr) : entryFrame m #[(.ref x0)] 2 = mkF m 0 #[.val (.ref x0), .unset] [] := by first | (simp [entryFrame, mkF, argsToLocals, Value.category]; done) | rfl
def own_Q_spend (Z : State) (a1 : Addr) (u : Int64) (h0 : Heap) (n0 : Nat) (v : Option Value) (h : Heap) (L : List Loc) : Prop := v = some (.int (own_sp u)) ∧ Fr n0 L ∧ Exa Z h a1 "com/example/shardd/shardd/core/MoveBudget" ∧ Fld Z h a1 "com/example/shardd/shardd/core/MoveBudget" "left" "J" (.long (own_left u)) ∧ n0 ≤ h.size
set_option maxRecDepth 65536 in
set_option maxHeartbeats 40000000 in
theorem own_rm_spend_t (l : Launch) (Z : State) (a0 : Array Value) (hw : ∀ d ∈ tables_1, d.before a0 Z = true) (ws : List Jvm.Cond) (a1 : Addr) (u : Int64) (h0 : Heap) (n0 : Nat) (Z0 : n0 ≤ h0.size) (F0 : Fld Z h0 a1 "com/example/shardd/shardd/core/MoveBudget" "left" "J" (.long u)) (E0 : Exa Z h0 a1 "com/example/shardd/shardd/core/MoveBudget") (g0 : n0 ≤ a1) (hp : (0 : Int64) < u) :
    MetFree l (⟨"com/example/shardd/shardd/core/MoveBudget", "spend", "()Z"⟩ : MethodName) (head1 (Jvm.Cond.code (⟨"com/example/shardd/shardd/core/MoveBudget", "spend", "()Z"⟩ : MethodName) prog_68_method_4_code 2 (some .boolean) :: ws) ({ frames := 0, cells := 0, slots := 0, locals := 0 } : Room)) (fun a U => a = #[(.ref a1)] ∧ Z.Warmed39 U.vm ∧ U.heap = h0) (fun _ _ _ _ _ => True) (fun _ U o U' => ∃ v L, o = .returned v ∧ own_Q_spend Z a1 u h0 n0 v U'.heap L ∧ FrameEnd U o U' L ({ frames := 0, cells := 0, slots := 0, locals := 0 } : Room).cells ({ frames := 0, cells := 0, slots := 0, locals := 0 } : Room).slots) := by
  refine MetFree.of_bodySF (plainFor_of_name own_pn0) hisR ?_
  intro p e s m args below meth c s₁ Bd hml0 hP hK
  obtain ⟨rfl, hZ, hh⟩ := hP
  have hx := Bd.exec
  have hby := Bd.bytes
  have hml : c.maxLocals = 2 := hml0
  have hown : s.vm.findClass "com/example/shardd/shardd/core/MoveBudget" = some m.cls := findClass_of_methodNamed Bd.named
  have hnm := (name_of_methodNamed Bd.named Bd.method).1
  have X0 : Stand p l e ({ frames := 0, cells := 0, slots := 0, locals := 0 } : Room) s m #[(.ref a1)] below meth c s₁ [] 0 0 := Stand.of_body Bd
  have e0 : s₁.heap = h0 := by rw [← hh, Bd.state]; rfl
  have N0 := Fr.nil n0
  have pre0 : ∀ t, Steps p.tables e below (s₁.setTop (mkF m 0 #[.val (.ref a1), .unset] [])) t → Steps p.tables e below (s₁.setTop (entryFrame m #[(.ref a1)] 2)) t := fun t k => castTop (own_ef_spend m a1) k
  obtain ⟨T1, X1, e1, st1⟩ := getF X0 hx hZ hown (host := "") (Or.inl (hw _ (List.mem_of_getElem? (i := 9) rfl))) Via.refl e0 F0 (g := (mkF m 1 #[.val (.ref a1), .unset] [(.ref a1)])) rfl rfl (hb hby own_d_prog_68_method_4_1)
  obtain ⟨T2, X2, e2, st2⟩ := getF X1 hx hZ hown (host := "") (Or.inl (hw _ (List.mem_of_getElem? (i := 9) rfl))) Via.refl e1 F0 (g := (mkF m 21 #[.val (.ref a1), .val (.int (1 : Int32))] [(.ref a1), (.ref a1)])) rfl rfl (hb hby own_d_prog_68_method_4_21)
  obtain ⟨T3, h3, X3, e3, W3, st3⟩ := putF X2 hx hZ hown (host := "") (Or.inl (hw _ (List.mem_of_getElem? (i := 9) rfl))) Via.refl e2 F0 E0 (Or.inl (hw _ (List.mem_of_getElem? (i := 10) rfl))) (hw _ (List.mem_of_getElem? (i := 1) rfl)) (ty := .long) (by decide) rfl rfl (g := (mkF m 26 #[.val (.ref a1), .val (.int (1 : Int32))] [(.long (u - (1 : Int64))), (.ref a1)])) rfl rfl (hb hby own_d_prog_68_method_4_26)
  have E3_a1 := E0.wr W3
  have Fw3_a1_left := F0.same W3
  have N3 := Fr.snoc X3 N0 g0
  have Z3 := Nat.le_trans Z0 (Keep.of_wr W3).1
  obtain ⟨fs, hr, hrun, hended, hW, hsame⟩ := X3.leave (v := some (.int (1 : Int32))) (fun h => by rw [Bd.returns] at h; cases h)
  refine ⟨_, _, pre0 _ ?_, hrun, hended, _, _, rfl, ?_, ⟨_, rfl⟩, hW, hsame.mono (by decide) (by decide)⟩
  · show Steps p.tables e below (s₁.setTop (mkF m 0 #[.val (.ref a1), .unset] [])) _
    refine XS.aloadN X0.here hx rfl (hb hby own_d_prog_68_method_4_0) rfl rfl ?_
    show Steps p.tables e below (s₁.setTop (mkF m 1 #[.val (.ref a1), .unset] [(.ref a1)])) _
    refine st1 _ ?_
    show Steps p.tables e below (T1.setTop (mkF m 4 #[.val (.ref a1), .unset] [(.long u)])) _
    refine XS.lconst X1.here hx rfl (hb hby own_d_prog_68_method_4_4) ?_
    show Steps p.tables e below (T1.setTop (mkF m 5 #[.val (.ref a1), .unset] [(.long (0 : Int64)), (.long u)])) _
    refine XS.lcmp X1.here hx rfl (hb hby own_d_prog_68_method_4_5) rfl ?_
    show Steps p.tables e below (T1.setTop (mkF m 6 #[.val (.ref a1), .unset] [(.int (lcmpW u (0 : Int64)))])) _
    refine XS.ifNo X1.here hx rfl (hb hby own_d_prog_68_method_4_6) rfl ((if0 _ _).trans (tlt ((lw_gt _ _).mpr hp)).2.2.2) ?_
    show Steps p.tables e below (T1.setTop (mkF m 9 #[.val (.ref a1), .unset] [])) _
    refine XS.iconst X1.here hx rfl (hb hby own_d_prog_68_method_4_9) ?_
    show Steps p.tables e below (T1.setTop (mkF m 10 #[.val (.ref a1), .unset] [(.int (1 : Int32))])) _
    refine XS.goto X1.here hx rfl (pc0 := 10) (pc' := 14) rfl (hb hby own_d_prog_68_method_4_10) (by decide) (by decide) ?_
    show Steps p.tables e below (T1.setTop (mkF m 14 #[.val (.ref a1), .unset] [(.int (1 : Int32))])) _
    refine XS.istoreN X1.here hx rfl (hb hby own_d_prog_68_method_4_14) rfl (l' := #[.val (.ref a1), .val (.int (1 : Int32))]) rfl ?_
    show Steps p.tables e below (T1.setTop (mkF m 15 #[.val (.ref a1), .val (.int (1 : Int32))] [])) _
    refine XS.iloadN X1.here hx rfl (hb hby own_d_prog_68_method_4_15) rfl ?_
    show Steps p.tables e below (T1.setTop (mkF m 16 #[.val (.ref a1), .val (.int (1 : Int32))] [(.int (1 : Int32))])) _
    refine XS.ifNo X1.here hx rfl (hb hby own_d_prog_68_method_4_16) rfl ((if0 _ _).trans (feq (by decide)).1) ?_
    show Steps p.tables e below (T1.setTop (mkF m 19 #[.val (.ref a1), .val (.int (1 : Int32))] [])) _
    refine XS.aloadN X1.here hx rfl (hb hby own_d_prog_68_method_4_19) rfl rfl ?_
    show Steps p.tables e below (T1.setTop (mkF m 20 #[.val (.ref a1), .val (.int (1 : Int32))] [(.ref a1)])) _
    refine XS.dup X1.here hx rfl (hb hby own_d_prog_68_method_4_20) rfl rfl ?_
    show Steps p.tables e below (T1.setTop (mkF m 21 #[.val (.ref a1), .val (.int (1 : Int32))] [(.ref a1), (.ref a1)])) _
    refine st2 _ ?_
    show Steps p.tables e below (T2.setTop (mkF m 24 #[.val (.ref a1), .val (.int (1 : Int32))] [(.long u), (.ref a1)])) _
    refine XS.lconst X2.here hx rfl (hb hby own_d_prog_68_method_4_24) ?_
    show Steps p.tables e below (T2.setTop (mkF m 25 #[.val (.ref a1), .val (.int (1 : Int32))] [(.long (1 : Int64)), (.long u), (.ref a1)])) _
    refine XS.lsub X2.here hx rfl (hb hby own_d_prog_68_method_4_25) rfl ?_
    show Steps p.tables e below (T2.setTop (mkF m 26 #[.val (.ref a1), .val (.int (1 : Int32))] [(.long (u - (1 : Int64))), (.ref a1)])) _
    refine st3 _ ?_
    show Steps p.tables e below (T3.setTop (mkF m 29 #[.val (.ref a1), .val (.int (1 : Int32))] [])) _
    refine XS.iloadN X3.here hx rfl (hb hby own_d_prog_68_method_4_29) rfl ?_
    show Steps p.tables e below (T3.setTop (mkF m 30 #[.val (.ref a1), .val (.int (1 : Int32))] [(.int (1 : Int32))])) _
    exact retN X3 hx (t := .boolean) Bd.returns (by simp) (hb hby own_d_prog_68_method_4_30) hr
  · show own_Q_spend Z a1 u h0 n0 _ T3.heap _
    rw [e3]
    exact ⟨(by rw [own_sp, if_pos hp]), N3, E3_a1, (by rw [own_left, if_pos hp]; exact Fw3_a1_left), Z3⟩
theorem own_d_prog_68_method_4_13 : decode prog_68_method_4_code 13 = .ok (.iconst 0, 1) := by decide +kernel
set_option maxRecDepth 65536 in
set_option maxHeartbeats 40000000 in
theorem own_rm_spend_f (l : Launch) (Z : State) (a0 : Array Value) (hw : ∀ d ∈ tables_1, d.before a0 Z = true) (ws : List Jvm.Cond) (a1 : Addr) (u : Int64) (h0 : Heap) (n0 : Nat) (Z0 : n0 ≤ h0.size) (F0 : Fld Z h0 a1 "com/example/shardd/shardd/core/MoveBudget" "left" "J" (.long u)) (E0 : Exa Z h0 a1 "com/example/shardd/shardd/core/MoveBudget") (g0 : n0 ≤ a1) (hp : ¬ ((0 : Int64) < u)) :
    MetFree l (⟨"com/example/shardd/shardd/core/MoveBudget", "spend", "()Z"⟩ : MethodName) (head1 (Jvm.Cond.code (⟨"com/example/shardd/shardd/core/MoveBudget", "spend", "()Z"⟩ : MethodName) prog_68_method_4_code 2 (some .boolean) :: ws) ({ frames := 0, cells := 0, slots := 0, locals := 0 } : Room)) (fun a U => a = #[(.ref a1)] ∧ Z.Warmed39 U.vm ∧ U.heap = h0) (fun _ _ _ _ _ => True) (fun _ U o U' => ∃ v L, o = .returned v ∧ own_Q_spend Z a1 u h0 n0 v U'.heap L ∧ FrameEnd U o U' L ({ frames := 0, cells := 0, slots := 0, locals := 0 } : Room).cells ({ frames := 0, cells := 0, slots := 0, locals := 0 } : Room).slots) := by
  refine MetFree.of_bodySF (plainFor_of_name own_pn0) hisR ?_
  intro p e s m args below meth c s₁ Bd hml0 hP hK
  obtain ⟨rfl, hZ, hh⟩ := hP
  have hx := Bd.exec
  have hby := Bd.bytes
  have hml : c.maxLocals = 2 := hml0
  have hown : s.vm.findClass "com/example/shardd/shardd/core/MoveBudget" = some m.cls := findClass_of_methodNamed Bd.named
  have hnm := (name_of_methodNamed Bd.named Bd.method).1
  have X0 : Stand p l e ({ frames := 0, cells := 0, slots := 0, locals := 0 } : Room) s m #[(.ref a1)] below meth c s₁ [] 0 0 := Stand.of_body Bd
  have e0 : s₁.heap = h0 := by rw [← hh, Bd.state]; rfl
  have N0 := Fr.nil n0
  have pre0 : ∀ t, Steps p.tables e below (s₁.setTop (mkF m 0 #[.val (.ref a1), .unset] [])) t → Steps p.tables e below (s₁.setTop (entryFrame m #[(.ref a1)] 2)) t := fun t k => castTop (own_ef_spend m a1) k
  obtain ⟨T1, X1, e1, st1⟩ := getF X0 hx hZ hown (host := "") (Or.inl (hw _ (List.mem_of_getElem? (i := 9) rfl))) Via.refl e0 F0 (g := (mkF m 1 #[.val (.ref a1), .unset] [(.ref a1)])) rfl rfl (hb hby own_d_prog_68_method_4_1)
  obtain ⟨fs, hr, hrun, hended, hW, hsame⟩ := X1.leave (v := some (.int (0 : Int32))) (fun h => by rw [Bd.returns] at h; cases h)
  refine ⟨_, _, pre0 _ ?_, hrun, hended, _, _, rfl, ?_, ⟨_, rfl⟩, hW, hsame.mono (by decide) (by decide)⟩
  · show Steps p.tables e below (s₁.setTop (mkF m 0 #[.val (.ref a1), .unset] [])) _
    refine XS.aloadN X0.here hx rfl (hb hby own_d_prog_68_method_4_0) rfl rfl ?_
    show Steps p.tables e below (s₁.setTop (mkF m 1 #[.val (.ref a1), .unset] [(.ref a1)])) _
    refine st1 _ ?_
    show Steps p.tables e below (T1.setTop (mkF m 4 #[.val (.ref a1), .unset] [(.long u)])) _
    refine XS.lconst X1.here hx rfl (hb hby own_d_prog_68_method_4_4) ?_
    show Steps p.tables e below (T1.setTop (mkF m 5 #[.val (.ref a1), .unset] [(.long (0 : Int64)), (.long u)])) _
    refine XS.lcmp X1.here hx rfl (hb hby own_d_prog_68_method_4_5) rfl ?_
    show Steps p.tables e below (T1.setTop (mkF m 6 #[.val (.ref a1), .unset] [(.int (lcmpW u (0 : Int64)))])) _
    refine XS.ifYes X1.here hx rfl (pc0 := 6) (pc' := 13) rfl (hb hby own_d_prog_68_method_4_6) rfl ((if0 _ _).trans (flt (fun q => hp ((lw_gt _ _).mp q))).2.2.2) (by decide) (by decide) ?_
    show Steps p.tables e below (T1.setTop (mkF m 13 #[.val (.ref a1), .unset] [])) _
    refine XS.iconst X1.here hx rfl (hb hby own_d_prog_68_method_4_13) ?_
    show Steps p.tables e below (T1.setTop (mkF m 14 #[.val (.ref a1), .unset] [(.int (0 : Int32))])) _
    refine XS.istoreN X1.here hx rfl (hb hby own_d_prog_68_method_4_14) rfl (l' := #[.val (.ref a1), .val (.int (0 : Int32))]) rfl ?_
    show Steps p.tables e below (T1.setTop (mkF m 15 #[.val (.ref a1), .val (.int (0 : Int32))] [])) _
    refine XS.iloadN X1.here hx rfl (hb hby own_d_prog_68_method_4_15) rfl ?_
    show Steps p.tables e below (T1.setTop (mkF m 16 #[.val (.ref a1), .val (.int (0 : Int32))] [(.int (0 : Int32))])) _
    refine XS.ifYes X1.here hx rfl (pc0 := 16) (pc' := 29) rfl (hb hby own_d_prog_68_method_4_16) rfl ((if0 _ _).trans (teq rfl).1) (by decide) (by decide) ?_
    show Steps p.tables e below (T1.setTop (mkF m 29 #[.val (.ref a1), .val (.int (0 : Int32))] [])) _
    refine XS.iloadN X1.here hx rfl (hb hby own_d_prog_68_method_4_29) rfl ?_
    show Steps p.tables e below (T1.setTop (mkF m 30 #[.val (.ref a1), .val (.int (0 : Int32))] [(.int (0 : Int32))])) _
    exact retN X1 hx (t := .boolean) Bd.returns (by simp) (hb hby own_d_prog_68_method_4_30) hr
  · show own_Q_spend Z a1 u h0 n0 _ T1.heap _
    rw [e1]
    exact ⟨(by rw [own_sp, if_neg hp]), N0, E0, (by rw [own_left, if_neg hp]; exact F0), Z0⟩
set_option maxRecDepth 65536 in
set_option maxHeartbeats 40000000 in
theorem own_rm_spend (l : Launch) (Z : State) (a0 : Array Value) (hw : ∀ d ∈ tables_1, d.before a0 Z = true) (ws : List Jvm.Cond) (a1 : Addr) (u : Int64) (h0 : Heap) (n0 : Nat) (Z0 : n0 ≤ h0.size) (F0 : Fld Z h0 a1 "com/example/shardd/shardd/core/MoveBudget" "left" "J" (.long u)) (E0 : Exa Z h0 a1 "com/example/shardd/shardd/core/MoveBudget") (g0 : n0 ≤ a1) :
    MetFree l (⟨"com/example/shardd/shardd/core/MoveBudget", "spend", "()Z"⟩ : MethodName) (head1 (Jvm.Cond.code (⟨"com/example/shardd/shardd/core/MoveBudget", "spend", "()Z"⟩ : MethodName) prog_68_method_4_code 2 (some .boolean) :: ws) ({ frames := 0, cells := 0, slots := 0, locals := 0 } : Room)) (fun a U => a = #[(.ref a1)] ∧ Z.Warmed39 U.vm ∧ U.heap = h0) (fun _ _ _ _ _ => True) (fun _ U o U' => ∃ v L, o = .returned v ∧ own_Q_spend Z a1 u h0 n0 v U'.heap L ∧ FrameEnd U o U' L ({ frames := 0, cells := 0, slots := 0, locals := 0 } : Room).cells ({ frames := 0, cells := 0, slots := 0, locals := 0 } : Room).slots) := by
  by_cases hp : (0 : Int64) < u
  · exact own_rm_spend_t l Z a0 hw ws a1 u h0 n0 Z0 F0 E0 g0 hp
  · exact own_rm_spend_f l Z a0 hw ws a1 u h0 n0 Z0 F0 E0 g0 hp
theorem own_d_prog_68_method_3_0 : decode prog_68_method_3_code 0 = .ok (.aload_n 0, 1) := by decide +kernel
theorem own_d_prog_68_method_3_1 : decode prog_68_method_3_code 1 = .ok (.getfield 7, 3) := by decide +kernel
theorem own_d_prog_68_method_3_4 : decode prog_68_method_3_code 4 = .ok (.iload_n 1, 1) := by decide +kernel
theorem own_d_prog_68_method_3_5 : decode prog_68_method_3_code 5 = .ok (.i2l, 1) := by decide +kernel
theorem own_d_prog_68_method_3_6 : decode prog_68_method_3_code 6 = .ok (.lcmp, 1) := by decide +kernel
theorem own_d_prog_68_method_3_7 : decode prog_68_method_3_code 7 = .ok (.ifCond .lt 7, 3) := by decide +kernel
theorem own_d_prog_68_method_3_14 : decode prog_68_method_3_code 14 = .ok (.iconst 0, 1) := by decide +kernel
theorem own_d_prog_68_method_3_15 : decode prog_68_method_3_code 15 = .ok (.ireturn, 1) := by decide +kernel
theorem own_d_prog_68_method_3_10 : decode prog_68_method_3_code 10 = .ok (.iconst 1, 1) := by decide +kernel
theorem own_d_prog_68_method_3_11 : decode prog_68_method_3_code 11 = .ok (.goto 4, 3) := by decide +kernel
theorem own_ef_has (m : MethodId) (x0 : Addr) (x1 : Int32) : entryFrame m #[(.ref x0), (.int x1)] 2 = mkF m 0 #[.val (.ref x0), .val (.int x1)] [] := by first | (simp [entryFrame, mkF, argsToLocals, Value.category]; done) | rfl
def own_Q_has (Z : State) (a1 : Addr) (p1 : Int32) (u : Int64) (h0 : Heap) (n0 : Nat) (v : Option Value) (h : Heap) (L : List Loc) : Prop := v = some (.int (own_has u p1)) ∧ Fr n0 L ∧ h = h0
set_option maxRecDepth 65536 in
set_option maxHeartbeats 40000000 in
theorem own_rm_has (l : Launch) (Z : State) (a0 : Array Value) (hw : ∀ d ∈ tables_1, d.before a0 Z = true) (ws : List Jvm.Cond) (a1 : Addr) (p1 : Int32) (u : Int64) (h0 : Heap) (n0 : Nat) (Z0 : n0 ≤ h0.size) (F0 : Fld Z h0 a1 "com/example/shardd/shardd/core/MoveBudget" "left" "J" (.long u)) :
    MetFree l (⟨"com/example/shardd/shardd/core/MoveBudget", "has", "(I)Z"⟩ : MethodName) (head1 (Jvm.Cond.code (⟨"com/example/shardd/shardd/core/MoveBudget", "has", "(I)Z"⟩ : MethodName) prog_68_method_3_code 2 (some .boolean) :: ws) ({ frames := 0, cells := 0, slots := 0, locals := 0 } : Room)) (fun a U => a = #[(.ref a1), (.int p1)] ∧ Z.Warmed39 U.vm ∧ U.heap = h0) (fun _ _ _ _ _ => True) (fun _ U o U' => ∃ v L, o = .returned v ∧ own_Q_has Z a1 p1 u h0 n0 v U'.heap L ∧ FrameEnd U o U' L ({ frames := 0, cells := 0, slots := 0, locals := 0 } : Room).cells ({ frames := 0, cells := 0, slots := 0, locals := 0 } : Room).slots) := by
  refine MetFree.of_bodySF (plainFor_of_name own_pn0) hisR ?_
  intro p e s m args below meth c s₁ Bd hml0 hP hK
  obtain ⟨rfl, hZ, hh⟩ := hP
  have hx := Bd.exec
  have hby := Bd.bytes
  have hml : c.maxLocals = 2 := hml0
  have hown : s.vm.findClass "com/example/shardd/shardd/core/MoveBudget" = some m.cls := findClass_of_methodNamed Bd.named
  have hnm := (name_of_methodNamed Bd.named Bd.method).1
  have X0 : Stand p l e ({ frames := 0, cells := 0, slots := 0, locals := 0 } : Room) s m #[(.ref a1), (.int p1)] below meth c s₁ [] 0 0 := Stand.of_body Bd
  have e0 : s₁.heap = h0 := by rw [← hh, Bd.state]; rfl
  have N0 := Fr.nil n0
  have pre0 : ∀ t, Steps p.tables e below (s₁.setTop (mkF m 0 #[.val (.ref a1), .val (.int p1)] [])) t → Steps p.tables e below (s₁.setTop (entryFrame m #[(.ref a1), (.int p1)] 2)) t := fun t k => castTop (own_ef_has m a1 p1) k
  obtain ⟨r0, hr0⟩ : ∃ z : Int32, z = own_has u p1 := ⟨_, rfl⟩
  obtain ⟨T1, X1, e1, st1⟩ := getF X0 hx hZ hown (host := "") (Or.inl (hw _ (List.mem_of_getElem? (i := 9) rfl))) Via.refl e0 F0 (g := (mkF m 1 #[.val (.ref a1), .val (.int p1)] [(.ref a1)])) rfl rfl (hb hby own_d_prog_68_method_3_1)
  obtain ⟨fs, hr, hrun, hended, hW, hsame⟩ := X1.leave (v := some (.int r0)) (fun h => by rw [Bd.returns] at h; cases h)
  refine ⟨_, _, pre0 _ ?_, hrun, hended, _, _, rfl, ?_, ⟨_, rfl⟩, hW, hsame.mono (by decide) (by decide)⟩
  · show Steps p.tables e below (s₁.setTop (mkF m 0 #[.val (.ref a1), .val (.int p1)] [])) _
    refine XS.aloadN X0.here hx rfl (hb hby own_d_prog_68_method_3_0) rfl rfl ?_
    show Steps p.tables e below (s₁.setTop (mkF m 1 #[.val (.ref a1), .val (.int p1)] [(.ref a1)])) _
    refine st1 _ ?_
    show Steps p.tables e below (T1.setTop (mkF m 4 #[.val (.ref a1), .val (.int p1)] [(.long u)])) _
    refine XS.iloadN X1.here hx rfl (hb hby own_d_prog_68_method_3_4) rfl ?_
    show Steps p.tables e below (T1.setTop (mkF m 5 #[.val (.ref a1), .val (.int p1)] [(.int p1), (.long u)])) _
    refine XS.i2l X1.here hx rfl (hb hby own_d_prog_68_method_3_5) rfl ?_
    show Steps p.tables e below (T1.setTop (mkF m 6 #[.val (.ref a1), .val (.int p1)] [(.long (p1.toInt64)), (.long u)])) _
    refine XS.lcmp X1.here hx rfl (hb hby own_d_prog_68_method_3_6) rfl ?_
    by_cases hc7 : u < (p1.toInt64)
    · show Steps p.tables e below (T1.setTop (mkF m 7 #[.val (.ref a1), .val (.int p1)] [(.int (lcmpW u (p1.toInt64)))])) _
      refine XS.ifYes X1.here hx rfl (pc0 := 7) (pc' := 14) rfl (hb hby own_d_prog_68_method_3_7) rfl ((if0 _ _).trans (tlt ((lw_lt _ _).mpr hc7)).1) (by decide) (by decide) ?_
      show Steps p.tables e below (T1.setTop (mkF m 14 #[.val (.ref a1), .val (.int p1)] [])) _
      refine XS.iconst X1.here hx rfl (hb hby own_d_prog_68_method_3_14) ?_
      have hv : r0 = (0 : Int32) := by rw [hr0]; exact if_pos hc7
      rw [hv] at hr
      show Steps p.tables e below (T1.setTop (mkF m 15 #[.val (.ref a1), .val (.int p1)] [(.int (0 : Int32))])) _
      exact retN X1 hx (t := .boolean) Bd.returns (by simp) (hb hby own_d_prog_68_method_3_15) hr
    · show Steps p.tables e below (T1.setTop (mkF m 7 #[.val (.ref a1), .val (.int p1)] [(.int (lcmpW u (p1.toInt64)))])) _
      refine XS.ifNo X1.here hx rfl (hb hby own_d_prog_68_method_3_7) rfl ((if0 _ _).trans (flt (fun q => hc7 ((lw_lt _ _).mp q))).1) ?_
      show Steps p.tables e below (T1.setTop (mkF m 10 #[.val (.ref a1), .val (.int p1)] [])) _
      refine XS.iconst X1.here hx rfl (hb hby own_d_prog_68_method_3_10) ?_
      show Steps p.tables e below (T1.setTop (mkF m 11 #[.val (.ref a1), .val (.int p1)] [(.int (1 : Int32))])) _
      refine XS.goto X1.here hx rfl (pc0 := 11) (pc' := 15) rfl (hb hby own_d_prog_68_method_3_11) (by decide) (by decide) ?_
      have hv : r0 = (1 : Int32) := by rw [hr0]; exact if_neg hc7
      rw [hv] at hr
      show Steps p.tables e below (T1.setTop (mkF m 15 #[.val (.ref a1), .val (.int p1)] [(.int (1 : Int32))])) _
      exact retN X1 hx (t := .boolean) Bd.returns (by simp) (hb hby own_d_prog_68_method_3_15) hr
  · show own_Q_has Z a1 p1 u h0 n0 _ T1.heap _
    rw [e1]
    exact ⟨(by rw [hr0]), N0, rfl⟩
theorem own_pd0 : parseMethodDescriptor "(J)V" = some ⟨[.long], none⟩ := by decide +kernel
theorem own_pd1 : parseMethodDescriptor "()Z" = some ⟨[], some .boolean⟩ := by decide +kernel
theorem own_pd2 : parseMethodDescriptor "(I)Z" = some ⟨[.int], some .boolean⟩ := by decide +kernel
theorem own_pn1 : plainName "com/example/shardd/shardd/core/MoveBudgetSpendPinLaw" = true := by first | (simp [plainName, overriddenIn]; done) | decide +kernel
theorem own_ef_law (m : MethodId) (x0 : Int64) (x1 : Int32) (x2 : Int32) : entryFrame m #[(.long x0), (.int x1), (.int x2)] maxLocals = mkF m 0 #[.val (.long x0), .second, .val (.int x1), .val (.int x2), .unset, .unset, .unset, .unset, .unset, .unset, .unset, .unset, .unset, .unset, .unset] [] := by first | (simp [entryFrame, mkF, argsToLocals, Value.category, maxLocals]; done) | rfl
def own_Q_law (Z : State) (q1 : Int64) (p1 : Int32) (p2 : Int32)  (h0 : Heap) (n0 : Nat) (v : Option Value) (h : Heap) (L : List Loc) : Prop := v = some (.int (1 : Int32)) ∧ Fr n0 L
set_option maxRecDepth 65536 in
set_option maxHeartbeats 40000000 in
theorem own_rm_law (l : Launch) (Z : State) (a0 : Array Value) (hw : ∀ d ∈ tables_1, d.before a0 Z = true) (ws : List Jvm.Cond) (q1 : Int64) (p1 : Int32) (p2 : Int32)  (h0 : Heap) (n0 : Nat) (Z0 : n0 ≤ h0.size)  :
    MetFree l x (head1 (Jvm.Cond.code x code maxLocals ret :: ws) room_1) (fun a U => a = #[(.long q1), (.int p1), (.int p2)] ∧ Z.Warmed39 U.vm ∧ U.heap = h0) (fun _ _ _ _ _ => True) (fun _ U o U' => ∃ v L, o = .returned v ∧ own_Q_law Z q1 p1 p2  h0 n0 v U'.heap L ∧ FrameEnd U o U' L room_1.cells room_1.slots) := by
  refine MetFree.of_bodySF (plainFor_of_name own_pn1) hisR ?_
  intro p e s m args below meth c s₁ Bd hml0 hP hK
  obtain ⟨rfl, hZ, hh⟩ := hP
  have hx := Bd.exec
  have hby := Bd.bytes
  have hml : c.maxLocals = 15 := hml0
  have hown : s.vm.findClass "com/example/shardd/shardd/core/MoveBudgetSpendPinLaw" = some m.cls := findClass_of_methodNamed Bd.named
  have hnm := (name_of_methodNamed Bd.named Bd.method).1
  have X0 : Stand p l e room_1 s m #[(.long q1), (.int p1), (.int p2)] below meth c s₁ [] 0 0 := Stand.of_body Bd
  have e0 : s₁.heap = h0 := by rw [← hh, Bd.state]; rfl
  have N0 := Fr.nil n0
  have pre0 : ∀ t, Steps p.tables e below (s₁.setTop (mkF m 0 #[.val (.long q1), .second, .val (.int p1), .val (.int p2), .unset, .unset, .unset, .unset, .unset, .unset, .unset, .unset, .unset, .unset, .unset] [])) t → Steps p.tables e below (s₁.setTop (entryFrame m #[(.long q1), (.int p1), (.int p2)] maxLocals)) t := fun t k => castTop (own_ef_law m q1 p1 p2) k
  obtain ⟨T1, h1, X1, e1, E1, A1, D1, -, st1⟩ := newO X0 hx hZ hown (hw _ (List.mem_of_getElem? (i := 0) rfl)) (hw _ (List.mem_of_getElem? (i := 1) rfl)) (hw _ (List.mem_of_getElem? (i := 2) rfl)) e0 (g := (mkF m 0 #[.val (.long q1), .second, .val (.int p1), .val (.int p2), .unset, .unset, .unset, .unset, .unset, .unset, .unset, .unset, .unset, .unset, .unset] [])) rfl (hb hby at_0) (by decide) (by decide)
  obtain ⟨b1, g1⟩ : ∃ z, z = h0.size := ⟨_, rfl⟩
  rw [← g1] at A1 D1 st1
  have g_b1 : n0 ≤ b1 := Nat.le_trans Z0 (Nat.le_of_eq g1.symm)
  have Z1 := Nat.le_trans Z0 E1.1
  have F1_left : Fld Z h1 b1 "com/example/shardd/shardd/core/MoveBudget" "left" "J" (.long (0 : Int64)) := D1 (Or.inl (hw _ (List.mem_of_getElem? (i := 10) rfl))) (ty := .long) (by decide)
  obtain ⟨_, _, ⟨T2, L2, k2, n2⟩, -, X2, ⟨Lc2, hQ2, l2, y2, z2⟩, st2⟩ := X1.specialBack hx (y := (⟨"com/example/shardd/shardd/core/MoveBudget", "<init>", "(J)V"⟩ : MethodName)) rfl hown (mvT hZ (hw _ (List.mem_of_getElem? (i := 3) rfl))) (mvT hZ (hw _ (List.mem_of_getElem? (i := 4) rfl))) (mvT hZ (hw _ (List.mem_of_getElem? (i := 5) rfl))) (by decide) (backOf (W := 1) (own_rm_init l Z a0 hw [] b1 q1 h1 n0 Z1 F1_left A1 g_b1) hZ (hw _ (List.mem_of_getElem? (i := 5) rfl)) (hw _ (List.mem_of_getElem? (i := 2) rfl)) (by decide) (by decide)) (g := (mkF m 5 #[.val (.long q1), .second, .val (.int p1), .val (.int p2), .unset, .unset, .unset, .unset, .unset, .unset, .unset, .unset, .unset, .unset, .unset] [(.long q1), (.ref b1), (.ref b1)])) rfl (by rw [hml]; rfl) (Steps.refl _) (a := b1) (argsL := [(.long q1)]) (rest := [(.ref b1)]) (lenOf own_pd0 rfl) rfl (by show 2 * 0 + _ ≤ _; exact Nat.le_of_eq rfl) (hb hby at_5) (fun _ _ => ⟨rfl, e1, (by decide : 1 + 0 ≤ _), (by decide : 1 + 0 ≤ _)⟩)
  dsimp only [Pt.U, Pt.locs, Pt.cells, Pt.slots] at X2 l2 y2 z2 st2 hQ2
  subst l2 y2 z2
  obtain ⟨rfl, N2q, Eq2, Fq2, Zq2⟩ := hQ2
  have N2 := Fr.app N0 N2q
  obtain ⟨v3, hv3⟩ : ∃ z : Int32, z = (if (0 : Int64) < q1 then (1 : Int32) else (0 : Int32)) := ⟨_, rfl⟩
  obtain ⟨v4, hv4⟩ : ∃ z : Int64, z = (if v3 = (0 : Int32) then q1 else (q1 - (1 : Int64))) := ⟨_, rfl⟩
  obtain ⟨v5, hv5⟩ : ∃ z : Int32, z = (if (0 : Int64) < v4 then (1 : Int32) else (0 : Int32)) := ⟨_, rfl⟩
  obtain ⟨v6, hv6⟩ : ∃ z : Int64, z = (if v5 = (0 : Int32) then v4 else (v4 - (1 : Int64))) := ⟨_, rfl⟩
  have ha1 := own_left_of hv3 hv4
  have ha2 := own_left_of hv5 hv6
  rw [ha1] at ha2
  obtain ⟨cq7, kq7, q7a, q7b, q7c⟩ := isOf hZ rfl Eq2
  obtain ⟨_, _, ⟨T7, L7, k7, n7⟩, -, X7, ⟨Lc7, hQ7, l7, y7, z7⟩, st7⟩ := X2.virtualBack hx (y := (⟨"com/example/shardd/shardd/core/MoveBudget", "spend", "()Z"⟩ : MethodName)) (z := (⟨"com/example/shardd/shardd/core/MoveBudget", "spend", "()Z"⟩ : MethodName)) hown (mvT hZ (hw _ (List.mem_of_getElem? (i := 11) rfl))) (mvT hZ (hw _ (List.mem_of_getElem? (i := 12) rfl))) (notFace_of_selects (args := #[]) (mvT hZ (hw _ (List.mem_of_getElem? (i := 14) rfl)))) (mvT hZ (hw _ (List.mem_of_getElem? (i := 14) rfl))) (mvT hZ (hw _ (List.mem_of_getElem? (i := 13) rfl))) (by decide) (backOf (W := 0) (own_rm_spend l Z a0 hw [] b1 q1 T2.heap n0 Zq2 Fq2 Eq2 g_b1) hZ (hw _ (List.mem_of_getElem? (i := 15) rfl)) (hw _ (List.mem_of_getElem? (i := 2) rfl)) (by decide) (by decide)) q7a q7c (g := (mkF m 69 #[.val (.long q1), .second, .val (.int p1), .val (.int p2), .val (.ref b1), .val (.int v3), .val (.long v4), .second, .val (.int v5), .val (.long v6), .second, .unset, .unset, .unset, .unset] [(.ref b1)])) rfl (by rw [hml]; rfl) (Steps.refl _) (argsL := []) (rest := []) (lenOf own_pd1 rfl) rfl (by show 2 * 0 + _ ≤ _; exact Nat.le_of_eq rfl) (hb hby at_69) (fun _ _ => ⟨rfl, rfl, (by decide : 1 + 0 ≤ _), (by decide : 1 + 0 ≤ _)⟩)
  dsimp only [Pt.U, Pt.locs, Pt.cells, Pt.slots] at X7 l7 y7 z7 st7 hQ7
  subst l7 y7 z7
  obtain ⟨rfl, N7q, Eq7, Fq7, Zq7⟩ := hQ7
  have N7 := Fr.app N2 N7q
  obtain ⟨cq8, kq8, q8a, q8b, q8c⟩ := isOf hZ rfl Eq7
  obtain ⟨_, _, ⟨T8, L8, k8, n8⟩, -, X8, ⟨Lc8, hQ8, l8, y8, z8⟩, st8⟩ := X7.virtualBack hx (y := (⟨"com/example/shardd/shardd/core/MoveBudget", "has", "(I)Z"⟩ : MethodName)) (z := (⟨"com/example/shardd/shardd/core/MoveBudget", "has", "(I)Z"⟩ : MethodName)) hown (mvT hZ (hw _ (List.mem_of_getElem? (i := 16) rfl))) (mvT hZ (hw _ (List.mem_of_getElem? (i := 17) rfl))) (notFace_of_selects (args := #[]) (mvT hZ (hw _ (List.mem_of_getElem? (i := 19) rfl)))) (mvT hZ (hw _ (List.mem_of_getElem? (i := 19) rfl))) (mvT hZ (hw _ (List.mem_of_getElem? (i := 18) rfl))) (by decide) (backOf (W := 0) (own_rm_has l Z a0 hw [] b1 p1 (own_left q1) T7.heap n0 Zq7 Fq7) hZ (hw _ (List.mem_of_getElem? (i := 20) rfl)) (hw _ (List.mem_of_getElem? (i := 2) rfl)) (by decide) (by decide)) q8a q8c (g := (mkF m 77 #[.val (.long q1), .second, .val (.int p1), .val (.int p2), .val (.ref b1), .val (.int v3), .val (.long v4), .second, .val (.int v5), .val (.long v6), .second, .val (.int (own_sp q1)), .unset, .unset, .unset] [(.int p1), (.ref b1)])) rfl (by rw [hml]; rfl) (Steps.refl _) (argsL := [(.int p1)]) (rest := []) (lenOf own_pd2 rfl) rfl (by show 2 * 0 + _ ≤ _; exact Nat.le_of_eq rfl) (hb hby at_77) (fun _ _ => ⟨rfl, rfl, (by decide : 1 + 0 ≤ _), (by decide : 1 + 0 ≤ _)⟩)
  dsimp only [Pt.U, Pt.locs, Pt.cells, Pt.slots] at X8 l8 y8 z8 st8 hQ8
  subst l8 y8 z8
  obtain ⟨rfl, N8q, e8q⟩ := hQ8
  have N8 := Fr.app N7 N8q
  have E8_b1 : Exa Z T8.heap b1 "com/example/shardd/shardd/core/MoveBudget" := by rw [e8q]; exact Eq7
  have Fs8_b1_left : Fld Z T8.heap b1 "com/example/shardd/shardd/core/MoveBudget" "left" "J" (.long (own_left q1)) := by rw [e8q]; exact Fq7
  have Z8 : n0 ≤ T8.heap.size := by rw [e8q]; exact Zq7
  obtain ⟨cq9, kq9, q9a, q9b, q9c⟩ := isOf hZ rfl E8_b1
  obtain ⟨_, _, ⟨T9, L9, k9, n9⟩, -, X9, ⟨Lc9, hQ9, l9, y9, z9⟩, st9⟩ := X8.virtualBack hx (y := (⟨"com/example/shardd/shardd/core/MoveBudget", "spend", "()Z"⟩ : MethodName)) (z := (⟨"com/example/shardd/shardd/core/MoveBudget", "spend", "()Z"⟩ : MethodName)) hown (mvT hZ (hw _ (List.mem_of_getElem? (i := 11) rfl))) (mvT hZ (hw _ (List.mem_of_getElem? (i := 12) rfl))) (notFace_of_selects (args := #[]) (mvT hZ (hw _ (List.mem_of_getElem? (i := 14) rfl)))) (mvT hZ (hw _ (List.mem_of_getElem? (i := 14) rfl))) (mvT hZ (hw _ (List.mem_of_getElem? (i := 13) rfl))) (by decide) (backOf (W := 0) (own_rm_spend l Z a0 hw [] b1 (own_left q1) T8.heap n0 Z8 Fs8_b1_left E8_b1 g_b1) hZ (hw _ (List.mem_of_getElem? (i := 15) rfl)) (hw _ (List.mem_of_getElem? (i := 2) rfl)) (by decide) (by decide)) q9a q9c (g := (mkF m 84 #[.val (.long q1), .second, .val (.int p1), .val (.int p2), .val (.ref b1), .val (.int v3), .val (.long v4), .second, .val (.int v5), .val (.long v6), .second, .val (.int (own_sp q1)), .val (.int (own_has (own_left q1) p1)), .unset, .unset] [(.ref b1)])) rfl (by rw [hml]; rfl) (Steps.refl _) (argsL := []) (rest := []) (lenOf own_pd1 rfl) rfl (by show 2 * 0 + _ ≤ _; exact Nat.le_of_eq rfl) (hb hby at_84) (fun _ _ => ⟨rfl, rfl, (by decide : 1 + 0 ≤ _), (by decide : 1 + 0 ≤ _)⟩)
  dsimp only [Pt.U, Pt.locs, Pt.cells, Pt.slots] at X9 l9 y9 z9 st9 hQ9
  subst l9 y9 z9
  obtain ⟨rfl, N9q, Eq9, Fq9, Zq9⟩ := hQ9
  have N9 := Fr.app N8 N9q
  obtain ⟨cq10, kq10, q10a, q10b, q10c⟩ := isOf hZ rfl Eq9
  obtain ⟨_, _, ⟨T10, L10, k10, n10⟩, -, X10, ⟨Lc10, hQ10, l10, y10, z10⟩, st10⟩ := X9.virtualBack hx (y := (⟨"com/example/shardd/shardd/core/MoveBudget", "has", "(I)Z"⟩ : MethodName)) (z := (⟨"com/example/shardd/shardd/core/MoveBudget", "has", "(I)Z"⟩ : MethodName)) hown (mvT hZ (hw _ (List.mem_of_getElem? (i := 16) rfl))) (mvT hZ (hw _ (List.mem_of_getElem? (i := 17) rfl))) (notFace_of_selects (args := #[]) (mvT hZ (hw _ (List.mem_of_getElem? (i := 19) rfl)))) (mvT hZ (hw _ (List.mem_of_getElem? (i := 19) rfl))) (mvT hZ (hw _ (List.mem_of_getElem? (i := 18) rfl))) (by decide) (backOf (W := 0) (own_rm_has l Z a0 hw [] b1 p2 (own_left (own_left q1)) T9.heap n0 Zq9 Fq9) hZ (hw _ (List.mem_of_getElem? (i := 20) rfl)) (hw _ (List.mem_of_getElem? (i := 2) rfl)) (by decide) (by decide)) q10a q10c (g := (mkF m 92 #[.val (.long q1), .second, .val (.int p1), .val (.int p2), .val (.ref b1), .val (.int v3), .val (.long v4), .second, .val (.int v5), .val (.long v6), .second, .val (.int (own_sp q1)), .val (.int (own_has (own_left q1) p1)), .val (.int (own_sp (own_left q1))), .unset] [(.int p2), (.ref b1)])) rfl (by rw [hml]; rfl) (Steps.refl _) (argsL := [(.int p2)]) (rest := []) (lenOf own_pd2 rfl) rfl (by show 2 * 0 + _ ≤ _; exact Nat.le_of_eq rfl) (hb hby at_92) (fun _ _ => ⟨rfl, rfl, (by decide : 1 + 0 ≤ _), (by decide : 1 + 0 ≤ _)⟩)
  dsimp only [Pt.U, Pt.locs, Pt.cells, Pt.slots] at X10 l10 y10 z10 st10 hQ10
  subst l10 y10 z10
  obtain ⟨rfl, N10q, e10q⟩ := hQ10
  have N10 := Fr.app N9 N10q
  have E10_b1 : Exa Z T10.heap b1 "com/example/shardd/shardd/core/MoveBudget" := by rw [e10q]; exact Eq9
  have Fs10_b1_left : Fld Z T10.heap b1 "com/example/shardd/shardd/core/MoveBudget" "left" "J" (.long (own_left (own_left q1))) := by rw [e10q]; exact Fq9
  have Z10 : n0 ≤ T10.heap.size := by rw [e10q]; exact Zq9
  obtain ⟨v11, hv11⟩ : ∃ z : Int32, z = (if v4 < (p1.toInt64) then (0 : Int32) else (1 : Int32)) := ⟨_, rfl⟩
  obtain ⟨v12, hv12⟩ : ∃ z : Int32, z = (if v6 < (p2.toInt64) then (0 : Int32) else (1 : Int32)) := ⟨_, rfl⟩
  obtain ⟨fs, hr, hrun, hended, hW, hsame⟩ := X10.leave (v := some (.int (1 : Int32))) (fun h => by rw [Bd.returns] at h; cases h)
  refine ⟨_, _, pre0 _ ?_, hrun, hended, _, _, rfl, ?_, ⟨_, rfl⟩, hW, hsame.mono (by decide) (by decide)⟩
  · show Steps p.tables e below (s₁.setTop (mkF m 0 #[.val (.long q1), .second, .val (.int p1), .val (.int p2), .unset, .unset, .unset, .unset, .unset, .unset, .unset, .unset, .unset, .unset, .unset] [])) _
    refine st1 _ ?_
    show Steps p.tables e below (T1.setTop (mkF m 3 #[.val (.long q1), .second, .val (.int p1), .val (.int p2), .unset, .unset, .unset, .unset, .unset, .unset, .unset, .unset, .unset, .unset, .unset] [(.ref b1)])) _
    refine XS.dup X1.here hx rfl (hb hby at_3) rfl rfl ?_
    show Steps p.tables e below (T1.setTop (mkF m 4 #[.val (.long q1), .second, .val (.int p1), .val (.int p2), .unset, .unset, .unset, .unset, .unset, .unset, .unset, .unset, .unset, .unset, .unset] [(.ref b1), (.ref b1)])) _
    refine XS.lloadN X1.here hx rfl (hb hby at_4) rfl ?_
    show Steps p.tables e below (T1.setTop (mkF m 5 #[.val (.long q1), .second, .val (.int p1), .val (.int p2), .unset, .unset, .unset, .unset, .unset, .unset, .unset, .unset, .unset, .unset, .unset] [(.long q1), (.ref b1), (.ref b1)])) _
    refine st2.trans ?_
    show Steps p.tables e below (T2.setTop (mkF m 8 #[.val (.long q1), .second, .val (.int p1), .val (.int p2), .unset, .unset, .unset, .unset, .unset, .unset, .unset, .unset, .unset, .unset, .unset] [(.ref b1)])) _
    refine XS.astore X2.here hx rfl (hb hby at_8) rfl rfl (l' := #[.val (.long q1), .second, .val (.int p1), .val (.int p2), .val (.ref b1), .unset, .unset, .unset, .unset, .unset, .unset, .unset, .unset, .unset, .unset]) rfl ?_
    show Steps p.tables e below (T2.setTop (mkF m 10 #[.val (.long q1), .second, .val (.int p1), .val (.int p2), .val (.ref b1), .unset, .unset, .unset, .unset, .unset, .unset, .unset, .unset, .unset, .unset] [])) _
    refine XS.lloadN X2.here hx rfl (hb hby at_10) rfl ?_
    show Steps p.tables e below (T2.setTop (mkF m 11 #[.val (.long q1), .second, .val (.int p1), .val (.int p2), .val (.ref b1), .unset, .unset, .unset, .unset, .unset, .unset, .unset, .unset, .unset, .unset] [(.long q1)])) _
    refine XS.lconst X2.here hx rfl (hb hby at_11) ?_
    show Steps p.tables e below (T2.setTop (mkF m 12 #[.val (.long q1), .second, .val (.int p1), .val (.int p2), .val (.ref b1), .unset, .unset, .unset, .unset, .unset, .unset, .unset, .unset, .unset, .unset] [(.long (0 : Int64)), (.long q1)])) _
    refine XS.lcmp X2.here hx rfl (hb hby at_12) rfl ?_
    suffices J13 : Steps p.tables e below (T2.setTop (mkF m 21 #[.val (.long q1), .second, .val (.int p1), .val (.int p2), .val (.ref b1), .unset, .unset, .unset, .unset, .unset, .unset, .unset, .unset, .unset, .unset] [(.int v3)])) (T10.setFrames fs) by
      by_cases hc13 : (0 : Int64) < q1
      · rw [hv3, if_pos hc13] at J13
        show Steps p.tables e below (T2.setTop (mkF m 13 #[.val (.long q1), .second, .val (.int p1), .val (.int p2), .val (.ref b1), .unset, .unset, .unset, .unset, .unset, .unset, .unset, .unset, .unset, .unset] [(.int (lcmpW q1 (0 : Int64)))])) _
        refine XS.ifNo X2.here hx rfl (hb hby at_13) rfl ((if0 _ _).trans (tlt ((lw_gt _ _).mpr hc13)).2.2.2) ?_
        show Steps p.tables e below (T2.setTop (mkF m 16 #[.val (.long q1), .second, .val (.int p1), .val (.int p2), .val (.ref b1), .unset, .unset, .unset, .unset, .unset, .unset, .unset, .unset, .unset, .unset] [])) _
        refine XS.iconst X2.here hx rfl (hb hby at_16) ?_
        show Steps p.tables e below (T2.setTop (mkF m 17 #[.val (.long q1), .second, .val (.int p1), .val (.int p2), .val (.ref b1), .unset, .unset, .unset, .unset, .unset, .unset, .unset, .unset, .unset, .unset] [(.int (1 : Int32))])) _
        refine XS.goto X2.here hx rfl (pc0 := 17) (pc' := 21) rfl (hb hby at_17) (by decide) (by decide) ?_
        exact J13
      · rw [hv3, if_neg hc13] at J13
        show Steps p.tables e below (T2.setTop (mkF m 13 #[.val (.long q1), .second, .val (.int p1), .val (.int p2), .val (.ref b1), .unset, .unset, .unset, .unset, .unset, .unset, .unset, .unset, .unset, .unset] [(.int (lcmpW q1 (0 : Int64)))])) _
        refine XS.ifYes X2.here hx rfl (pc0 := 13) (pc' := 20) rfl (hb hby at_13) rfl ((if0 _ _).trans (flt (fun q => hc13 ((lw_gt _ _).mp q))).2.2.2) (by decide) (by decide) ?_
        show Steps p.tables e below (T2.setTop (mkF m 20 #[.val (.long q1), .second, .val (.int p1), .val (.int p2), .val (.ref b1), .unset, .unset, .unset, .unset, .unset, .unset, .unset, .unset, .unset, .unset] [])) _
        refine XS.iconst X2.here hx rfl (hb hby at_20) ?_
        exact J13
    show Steps p.tables e below (T2.setTop (mkF m 21 #[.val (.long q1), .second, .val (.int p1), .val (.int p2), .val (.ref b1), .unset, .unset, .unset, .unset, .unset, .unset, .unset, .unset, .unset, .unset] [(.int v3)])) _
    refine XS.istore X2.here hx rfl (hb hby at_21) rfl (l' := #[.val (.long q1), .second, .val (.int p1), .val (.int p2), .val (.ref b1), .val (.int v3), .unset, .unset, .unset, .unset, .unset, .unset, .unset, .unset, .unset]) rfl ?_
    show Steps p.tables e below (T2.setTop (mkF m 23 #[.val (.long q1), .second, .val (.int p1), .val (.int p2), .val (.ref b1), .val (.int v3), .unset, .unset, .unset, .unset, .unset, .unset, .unset, .unset, .unset] [])) _
    refine XS.iload X2.here hx rfl (hb hby at_23) rfl ?_
    suffices J25 : Steps p.tables e below (T2.setTop (mkF m 35 #[.val (.long q1), .second, .val (.int p1), .val (.int p2), .val (.ref b1), .val (.int v3), .unset, .unset, .unset, .unset, .unset, .unset, .unset, .unset, .unset] [(.long v4)])) (T10.setFrames fs) by
      by_cases hc25 : v3 = (0 : Int32)
      · rw [hv4, if_pos hc25] at J25
        show Steps p.tables e below (T2.setTop (mkF m 25 #[.val (.long q1), .second, .val (.int p1), .val (.int p2), .val (.ref b1), .val (.int v3), .unset, .unset, .unset, .unset, .unset, .unset, .unset, .unset, .unset] [(.int v3)])) _
        refine XS.ifYes X2.here hx rfl (pc0 := 25) (pc' := 34) rfl (hb hby at_25) rfl ((if0 _ _).trans (teq hc25).1) (by decide) (by decide) ?_
        show Steps p.tables e below (T2.setTop (mkF m 34 #[.val (.long q1), .second, .val (.int p1), .val (.int p2), .val (.ref b1), .val (.int v3), .unset, .unset, .unset, .unset, .unset, .unset, .unset, .unset, .unset] [])) _
        refine XS.lloadN X2.here hx rfl (hb hby at_34) rfl ?_
        exact J25
      · rw [hv4, if_neg hc25] at J25
        show Steps p.tables e below (T2.setTop (mkF m 25 #[.val (.long q1), .second, .val (.int p1), .val (.int p2), .val (.ref b1), .val (.int v3), .unset, .unset, .unset, .unset, .unset, .unset, .unset, .unset, .unset] [(.int v3)])) _
        refine XS.ifNo X2.here hx rfl (hb hby at_25) rfl ((if0 _ _).trans (feq hc25).1) ?_
        show Steps p.tables e below (T2.setTop (mkF m 28 #[.val (.long q1), .second, .val (.int p1), .val (.int p2), .val (.ref b1), .val (.int v3), .unset, .unset, .unset, .unset, .unset, .unset, .unset, .unset, .unset] [])) _
        refine XS.lloadN X2.here hx rfl (hb hby at_28) rfl ?_
        show Steps p.tables e below (T2.setTop (mkF m 29 #[.val (.long q1), .second, .val (.int p1), .val (.int p2), .val (.ref b1), .val (.int v3), .unset, .unset, .unset, .unset, .unset, .unset, .unset, .unset, .unset] [(.long q1)])) _
        refine XS.lconst X2.here hx rfl (hb hby at_29) ?_
        show Steps p.tables e below (T2.setTop (mkF m 30 #[.val (.long q1), .second, .val (.int p1), .val (.int p2), .val (.ref b1), .val (.int v3), .unset, .unset, .unset, .unset, .unset, .unset, .unset, .unset, .unset] [(.long (1 : Int64)), (.long q1)])) _
        refine XS.lsub X2.here hx rfl (hb hby at_30) rfl ?_
        show Steps p.tables e below (T2.setTop (mkF m 31 #[.val (.long q1), .second, .val (.int p1), .val (.int p2), .val (.ref b1), .val (.int v3), .unset, .unset, .unset, .unset, .unset, .unset, .unset, .unset, .unset] [(.long (q1 - (1 : Int64)))])) _
        refine XS.goto X2.here hx rfl (pc0 := 31) (pc' := 35) rfl (hb hby at_31) (by decide) (by decide) ?_
        exact J25
    show Steps p.tables e below (T2.setTop (mkF m 35 #[.val (.long q1), .second, .val (.int p1), .val (.int p2), .val (.ref b1), .val (.int v3), .unset, .unset, .unset, .unset, .unset, .unset, .unset, .unset, .unset] [(.long v4)])) _
    refine XS.lstore X2.here hx rfl (hb hby at_35) rfl (l' := #[.val (.long q1), .second, .val (.int p1), .val (.int p2), .val (.ref b1), .val (.int v3), .val (.long v4), .second, .unset, .unset, .unset, .unset, .unset, .unset, .unset]) rfl ?_
    show Steps p.tables e below (T2.setTop (mkF m 37 #[.val (.long q1), .second, .val (.int p1), .val (.int p2), .val (.ref b1), .val (.int v3), .val (.long v4), .second, .unset, .unset, .unset, .unset, .unset, .unset, .unset] [])) _
    refine XS.lload X2.here hx rfl (hb hby at_37) rfl ?_
    show Steps p.tables e below (T2.setTop (mkF m 39 #[.val (.long q1), .second, .val (.int p1), .val (.int p2), .val (.ref b1), .val (.int v3), .val (.long v4), .second, .unset, .unset, .unset, .unset, .unset, .unset, .unset] [(.long v4)])) _
    refine XS.lconst X2.here hx rfl (hb hby at_39) ?_
    show Steps p.tables e below (T2.setTop (mkF m 40 #[.val (.long q1), .second, .val (.int p1), .val (.int p2), .val (.ref b1), .val (.int v3), .val (.long v4), .second, .unset, .unset, .unset, .unset, .unset, .unset, .unset] [(.long (0 : Int64)), (.long v4)])) _
    refine XS.lcmp X2.here hx rfl (hb hby at_40) rfl ?_
    suffices J41 : Steps p.tables e below (T2.setTop (mkF m 49 #[.val (.long q1), .second, .val (.int p1), .val (.int p2), .val (.ref b1), .val (.int v3), .val (.long v4), .second, .unset, .unset, .unset, .unset, .unset, .unset, .unset] [(.int v5)])) (T10.setFrames fs) by
      by_cases hc41 : (0 : Int64) < v4
      · rw [hv5, if_pos hc41] at J41
        show Steps p.tables e below (T2.setTop (mkF m 41 #[.val (.long q1), .second, .val (.int p1), .val (.int p2), .val (.ref b1), .val (.int v3), .val (.long v4), .second, .unset, .unset, .unset, .unset, .unset, .unset, .unset] [(.int (lcmpW v4 (0 : Int64)))])) _
        refine XS.ifNo X2.here hx rfl (hb hby at_41) rfl ((if0 _ _).trans (tlt ((lw_gt _ _).mpr hc41)).2.2.2) ?_
        show Steps p.tables e below (T2.setTop (mkF m 44 #[.val (.long q1), .second, .val (.int p1), .val (.int p2), .val (.ref b1), .val (.int v3), .val (.long v4), .second, .unset, .unset, .unset, .unset, .unset, .unset, .unset] [])) _
        refine XS.iconst X2.here hx rfl (hb hby at_44) ?_
        show Steps p.tables e below (T2.setTop (mkF m 45 #[.val (.long q1), .second, .val (.int p1), .val (.int p2), .val (.ref b1), .val (.int v3), .val (.long v4), .second, .unset, .unset, .unset, .unset, .unset, .unset, .unset] [(.int (1 : Int32))])) _
        refine XS.goto X2.here hx rfl (pc0 := 45) (pc' := 49) rfl (hb hby at_45) (by decide) (by decide) ?_
        exact J41
      · rw [hv5, if_neg hc41] at J41
        show Steps p.tables e below (T2.setTop (mkF m 41 #[.val (.long q1), .second, .val (.int p1), .val (.int p2), .val (.ref b1), .val (.int v3), .val (.long v4), .second, .unset, .unset, .unset, .unset, .unset, .unset, .unset] [(.int (lcmpW v4 (0 : Int64)))])) _
        refine XS.ifYes X2.here hx rfl (pc0 := 41) (pc' := 48) rfl (hb hby at_41) rfl ((if0 _ _).trans (flt (fun q => hc41 ((lw_gt _ _).mp q))).2.2.2) (by decide) (by decide) ?_
        show Steps p.tables e below (T2.setTop (mkF m 48 #[.val (.long q1), .second, .val (.int p1), .val (.int p2), .val (.ref b1), .val (.int v3), .val (.long v4), .second, .unset, .unset, .unset, .unset, .unset, .unset, .unset] [])) _
        refine XS.iconst X2.here hx rfl (hb hby at_48) ?_
        exact J41
    show Steps p.tables e below (T2.setTop (mkF m 49 #[.val (.long q1), .second, .val (.int p1), .val (.int p2), .val (.ref b1), .val (.int v3), .val (.long v4), .second, .unset, .unset, .unset, .unset, .unset, .unset, .unset] [(.int v5)])) _
    refine XS.istore X2.here hx rfl (hb hby at_49) rfl (l' := #[.val (.long q1), .second, .val (.int p1), .val (.int p2), .val (.ref b1), .val (.int v3), .val (.long v4), .second, .val (.int v5), .unset, .unset, .unset, .unset, .unset, .unset]) rfl ?_
    show Steps p.tables e below (T2.setTop (mkF m 51 #[.val (.long q1), .second, .val (.int p1), .val (.int p2), .val (.ref b1), .val (.int v3), .val (.long v4), .second, .val (.int v5), .unset, .unset, .unset, .unset, .unset, .unset] [])) _
    refine XS.iload X2.here hx rfl (hb hby at_51) rfl ?_
    suffices J53 : Steps p.tables e below (T2.setTop (mkF m 65 #[.val (.long q1), .second, .val (.int p1), .val (.int p2), .val (.ref b1), .val (.int v3), .val (.long v4), .second, .val (.int v5), .unset, .unset, .unset, .unset, .unset, .unset] [(.long v6)])) (T10.setFrames fs) by
      by_cases hc53 : v5 = (0 : Int32)
      · rw [hv6, if_pos hc53] at J53
        show Steps p.tables e below (T2.setTop (mkF m 53 #[.val (.long q1), .second, .val (.int p1), .val (.int p2), .val (.ref b1), .val (.int v3), .val (.long v4), .second, .val (.int v5), .unset, .unset, .unset, .unset, .unset, .unset] [(.int v5)])) _
        refine XS.ifYes X2.here hx rfl (pc0 := 53) (pc' := 63) rfl (hb hby at_53) rfl ((if0 _ _).trans (teq hc53).1) (by decide) (by decide) ?_
        show Steps p.tables e below (T2.setTop (mkF m 63 #[.val (.long q1), .second, .val (.int p1), .val (.int p2), .val (.ref b1), .val (.int v3), .val (.long v4), .second, .val (.int v5), .unset, .unset, .unset, .unset, .unset, .unset] [])) _
        refine XS.lload X2.here hx rfl (hb hby at_63) rfl ?_
        exact J53
      · rw [hv6, if_neg hc53] at J53
        show Steps p.tables e below (T2.setTop (mkF m 53 #[.val (.long q1), .second, .val (.int p1), .val (.int p2), .val (.ref b1), .val (.int v3), .val (.long v4), .second, .val (.int v5), .unset, .unset, .unset, .unset, .unset, .unset] [(.int v5)])) _
        refine XS.ifNo X2.here hx rfl (hb hby at_53) rfl ((if0 _ _).trans (feq hc53).1) ?_
        show Steps p.tables e below (T2.setTop (mkF m 56 #[.val (.long q1), .second, .val (.int p1), .val (.int p2), .val (.ref b1), .val (.int v3), .val (.long v4), .second, .val (.int v5), .unset, .unset, .unset, .unset, .unset, .unset] [])) _
        refine XS.lload X2.here hx rfl (hb hby at_56) rfl ?_
        show Steps p.tables e below (T2.setTop (mkF m 58 #[.val (.long q1), .second, .val (.int p1), .val (.int p2), .val (.ref b1), .val (.int v3), .val (.long v4), .second, .val (.int v5), .unset, .unset, .unset, .unset, .unset, .unset] [(.long v4)])) _
        refine XS.lconst X2.here hx rfl (hb hby at_58) ?_
        show Steps p.tables e below (T2.setTop (mkF m 59 #[.val (.long q1), .second, .val (.int p1), .val (.int p2), .val (.ref b1), .val (.int v3), .val (.long v4), .second, .val (.int v5), .unset, .unset, .unset, .unset, .unset, .unset] [(.long (1 : Int64)), (.long v4)])) _
        refine XS.lsub X2.here hx rfl (hb hby at_59) rfl ?_
        show Steps p.tables e below (T2.setTop (mkF m 60 #[.val (.long q1), .second, .val (.int p1), .val (.int p2), .val (.ref b1), .val (.int v3), .val (.long v4), .second, .val (.int v5), .unset, .unset, .unset, .unset, .unset, .unset] [(.long (v4 - (1 : Int64)))])) _
        refine XS.goto X2.here hx rfl (pc0 := 60) (pc' := 65) rfl (hb hby at_60) (by decide) (by decide) ?_
        exact J53
    show Steps p.tables e below (T2.setTop (mkF m 65 #[.val (.long q1), .second, .val (.int p1), .val (.int p2), .val (.ref b1), .val (.int v3), .val (.long v4), .second, .val (.int v5), .unset, .unset, .unset, .unset, .unset, .unset] [(.long v6)])) _
    refine XS.lstore X2.here hx rfl (hb hby at_65) rfl (l' := #[.val (.long q1), .second, .val (.int p1), .val (.int p2), .val (.ref b1), .val (.int v3), .val (.long v4), .second, .val (.int v5), .val (.long v6), .second, .unset, .unset, .unset, .unset]) rfl ?_
    show Steps p.tables e below (T2.setTop (mkF m 67 #[.val (.long q1), .second, .val (.int p1), .val (.int p2), .val (.ref b1), .val (.int v3), .val (.long v4), .second, .val (.int v5), .val (.long v6), .second, .unset, .unset, .unset, .unset] [])) _
    refine XS.aload X2.here hx rfl (hb hby at_67) rfl rfl ?_
    show Steps p.tables e below (T2.setTop (mkF m 69 #[.val (.long q1), .second, .val (.int p1), .val (.int p2), .val (.ref b1), .val (.int v3), .val (.long v4), .second, .val (.int v5), .val (.long v6), .second, .unset, .unset, .unset, .unset] [(.ref b1)])) _
    refine st7.trans ?_
    show Steps p.tables e below (T7.setTop (mkF m 72 #[.val (.long q1), .second, .val (.int p1), .val (.int p2), .val (.ref b1), .val (.int v3), .val (.long v4), .second, .val (.int v5), .val (.long v6), .second, .unset, .unset, .unset, .unset] [(.int (own_sp q1))])) _
    refine XS.istore X7.here hx rfl (hb hby at_72) rfl (l' := #[.val (.long q1), .second, .val (.int p1), .val (.int p2), .val (.ref b1), .val (.int v3), .val (.long v4), .second, .val (.int v5), .val (.long v6), .second, .val (.int (own_sp q1)), .unset, .unset, .unset]) rfl ?_
    show Steps p.tables e below (T7.setTop (mkF m 74 #[.val (.long q1), .second, .val (.int p1), .val (.int p2), .val (.ref b1), .val (.int v3), .val (.long v4), .second, .val (.int v5), .val (.long v6), .second, .val (.int (own_sp q1)), .unset, .unset, .unset] [])) _
    refine XS.aload X7.here hx rfl (hb hby at_74) rfl rfl ?_
    show Steps p.tables e below (T7.setTop (mkF m 76 #[.val (.long q1), .second, .val (.int p1), .val (.int p2), .val (.ref b1), .val (.int v3), .val (.long v4), .second, .val (.int v5), .val (.long v6), .second, .val (.int (own_sp q1)), .unset, .unset, .unset] [(.ref b1)])) _
    refine XS.iloadN X7.here hx rfl (hb hby at_76) rfl ?_
    show Steps p.tables e below (T7.setTop (mkF m 77 #[.val (.long q1), .second, .val (.int p1), .val (.int p2), .val (.ref b1), .val (.int v3), .val (.long v4), .second, .val (.int v5), .val (.long v6), .second, .val (.int (own_sp q1)), .unset, .unset, .unset] [(.int p1), (.ref b1)])) _
    refine st8.trans ?_
    show Steps p.tables e below (T8.setTop (mkF m 80 #[.val (.long q1), .second, .val (.int p1), .val (.int p2), .val (.ref b1), .val (.int v3), .val (.long v4), .second, .val (.int v5), .val (.long v6), .second, .val (.int (own_sp q1)), .unset, .unset, .unset] [(.int (own_has (own_left q1) p1))])) _
    refine XS.istore X8.here hx rfl (hb hby at_80) rfl (l' := #[.val (.long q1), .second, .val (.int p1), .val (.int p2), .val (.ref b1), .val (.int v3), .val (.long v4), .second, .val (.int v5), .val (.long v6), .second, .val (.int (own_sp q1)), .val (.int (own_has (own_left q1) p1)), .unset, .unset]) rfl ?_
    show Steps p.tables e below (T8.setTop (mkF m 82 #[.val (.long q1), .second, .val (.int p1), .val (.int p2), .val (.ref b1), .val (.int v3), .val (.long v4), .second, .val (.int v5), .val (.long v6), .second, .val (.int (own_sp q1)), .val (.int (own_has (own_left q1) p1)), .unset, .unset] [])) _
    refine XS.aload X8.here hx rfl (hb hby at_82) rfl rfl ?_
    show Steps p.tables e below (T8.setTop (mkF m 84 #[.val (.long q1), .second, .val (.int p1), .val (.int p2), .val (.ref b1), .val (.int v3), .val (.long v4), .second, .val (.int v5), .val (.long v6), .second, .val (.int (own_sp q1)), .val (.int (own_has (own_left q1) p1)), .unset, .unset] [(.ref b1)])) _
    refine st9.trans ?_
    show Steps p.tables e below (T9.setTop (mkF m 87 #[.val (.long q1), .second, .val (.int p1), .val (.int p2), .val (.ref b1), .val (.int v3), .val (.long v4), .second, .val (.int v5), .val (.long v6), .second, .val (.int (own_sp q1)), .val (.int (own_has (own_left q1) p1)), .unset, .unset] [(.int (own_sp (own_left q1)))])) _
    refine XS.istore X9.here hx rfl (hb hby at_87) rfl (l' := #[.val (.long q1), .second, .val (.int p1), .val (.int p2), .val (.ref b1), .val (.int v3), .val (.long v4), .second, .val (.int v5), .val (.long v6), .second, .val (.int (own_sp q1)), .val (.int (own_has (own_left q1) p1)), .val (.int (own_sp (own_left q1))), .unset]) rfl ?_
    show Steps p.tables e below (T9.setTop (mkF m 89 #[.val (.long q1), .second, .val (.int p1), .val (.int p2), .val (.ref b1), .val (.int v3), .val (.long v4), .second, .val (.int v5), .val (.long v6), .second, .val (.int (own_sp q1)), .val (.int (own_has (own_left q1) p1)), .val (.int (own_sp (own_left q1))), .unset] [])) _
    refine XS.aload X9.here hx rfl (hb hby at_89) rfl rfl ?_
    show Steps p.tables e below (T9.setTop (mkF m 91 #[.val (.long q1), .second, .val (.int p1), .val (.int p2), .val (.ref b1), .val (.int v3), .val (.long v4), .second, .val (.int v5), .val (.long v6), .second, .val (.int (own_sp q1)), .val (.int (own_has (own_left q1) p1)), .val (.int (own_sp (own_left q1))), .unset] [(.ref b1)])) _
    refine XS.iloadN X9.here hx rfl (hb hby at_91) rfl ?_
    show Steps p.tables e below (T9.setTop (mkF m 92 #[.val (.long q1), .second, .val (.int p1), .val (.int p2), .val (.ref b1), .val (.int v3), .val (.long v4), .second, .val (.int v5), .val (.long v6), .second, .val (.int (own_sp q1)), .val (.int (own_has (own_left q1) p1)), .val (.int (own_sp (own_left q1))), .unset] [(.int p2), (.ref b1)])) _
    refine st10.trans ?_
    show Steps p.tables e below (T10.setTop (mkF m 95 #[.val (.long q1), .second, .val (.int p1), .val (.int p2), .val (.ref b1), .val (.int v3), .val (.long v4), .second, .val (.int v5), .val (.long v6), .second, .val (.int (own_sp q1)), .val (.int (own_has (own_left q1) p1)), .val (.int (own_sp (own_left q1))), .unset] [(.int (own_has (own_left (own_left q1)) p2))])) _
    refine XS.istore X10.here hx rfl (hb hby at_95) rfl (l' := #[.val (.long q1), .second, .val (.int p1), .val (.int p2), .val (.ref b1), .val (.int v3), .val (.long v4), .second, .val (.int v5), .val (.long v6), .second, .val (.int (own_sp q1)), .val (.int (own_has (own_left q1) p1)), .val (.int (own_sp (own_left q1))), .val (.int (own_has (own_left (own_left q1)) p2))]) rfl ?_
    show Steps p.tables e below (T10.setTop (mkF m 97 #[.val (.long q1), .second, .val (.int p1), .val (.int p2), .val (.ref b1), .val (.int v3), .val (.long v4), .second, .val (.int v5), .val (.long v6), .second, .val (.int (own_sp q1)), .val (.int (own_has (own_left q1) p1)), .val (.int (own_sp (own_left q1))), .val (.int (own_has (own_left (own_left q1)) p2))] [])) _
    refine XS.iload X10.here hx rfl (hb hby at_97) rfl ?_
    show Steps p.tables e below (T10.setTop (mkF m 99 #[.val (.long q1), .second, .val (.int p1), .val (.int p2), .val (.ref b1), .val (.int v3), .val (.long v4), .second, .val (.int v5), .val (.long v6), .second, .val (.int (own_sp q1)), .val (.int (own_has (own_left q1) p1)), .val (.int (own_sp (own_left q1))), .val (.int (own_has (own_left (own_left q1)) p2))] [(.int (own_sp q1))])) _
    refine XS.iload X10.here hx rfl (hb hby at_99) rfl ?_
    show Steps p.tables e below (T10.setTop (mkF m 101 #[.val (.long q1), .second, .val (.int p1), .val (.int p2), .val (.ref b1), .val (.int v3), .val (.long v4), .second, .val (.int v5), .val (.long v6), .second, .val (.int (own_sp q1)), .val (.int (own_has (own_left q1) p1)), .val (.int (own_sp (own_left q1))), .val (.int (own_has (own_left (own_left q1)) p2))] [(.int v3), (.int (own_sp q1))])) _
    refine XS.icmpNo X10.here hx rfl (hb hby at_101) rfl (teq hv3.symm).2 ?_
    show Steps p.tables e below (T10.setTop (mkF m 104 #[.val (.long q1), .second, .val (.int p1), .val (.int p2), .val (.ref b1), .val (.int v3), .val (.long v4), .second, .val (.int v5), .val (.long v6), .second, .val (.int (own_sp q1)), .val (.int (own_has (own_left q1) p1)), .val (.int (own_sp (own_left q1))), .val (.int (own_has (own_left (own_left q1)) p2))] [])) _
    refine XS.iload X10.here hx rfl (hb hby at_104) rfl ?_
    show Steps p.tables e below (T10.setTop (mkF m 106 #[.val (.long q1), .second, .val (.int p1), .val (.int p2), .val (.ref b1), .val (.int v3), .val (.long v4), .second, .val (.int v5), .val (.long v6), .second, .val (.int (own_sp q1)), .val (.int (own_has (own_left q1) p1)), .val (.int (own_sp (own_left q1))), .val (.int (own_has (own_left (own_left q1)) p2))] [(.int (own_has (own_left q1) p1))])) _
    refine XS.lload X10.here hx rfl (hb hby at_106) rfl ?_
    show Steps p.tables e below (T10.setTop (mkF m 108 #[.val (.long q1), .second, .val (.int p1), .val (.int p2), .val (.ref b1), .val (.int v3), .val (.long v4), .second, .val (.int v5), .val (.long v6), .second, .val (.int (own_sp q1)), .val (.int (own_has (own_left q1) p1)), .val (.int (own_sp (own_left q1))), .val (.int (own_has (own_left (own_left q1)) p2))] [(.long v4), (.int (own_has (own_left q1) p1))])) _
    refine XS.iloadN X10.here hx rfl (hb hby at_108) rfl ?_
    show Steps p.tables e below (T10.setTop (mkF m 109 #[.val (.long q1), .second, .val (.int p1), .val (.int p2), .val (.ref b1), .val (.int v3), .val (.long v4), .second, .val (.int v5), .val (.long v6), .second, .val (.int (own_sp q1)), .val (.int (own_has (own_left q1) p1)), .val (.int (own_sp (own_left q1))), .val (.int (own_has (own_left (own_left q1)) p2))] [(.int p1), (.long v4), (.int (own_has (own_left q1) p1))])) _
    refine XS.i2l X10.here hx rfl (hb hby at_109) rfl ?_
    show Steps p.tables e below (T10.setTop (mkF m 110 #[.val (.long q1), .second, .val (.int p1), .val (.int p2), .val (.ref b1), .val (.int v3), .val (.long v4), .second, .val (.int v5), .val (.long v6), .second, .val (.int (own_sp q1)), .val (.int (own_has (own_left q1) p1)), .val (.int (own_sp (own_left q1))), .val (.int (own_has (own_left (own_left q1)) p2))] [(.long (p1.toInt64)), (.long v4), (.int (own_has (own_left q1) p1))])) _
    refine XS.lcmp X10.here hx rfl (hb hby at_110) rfl ?_
    suffices J111 : Steps p.tables e below (T10.setTop (mkF m 119 #[.val (.long q1), .second, .val (.int p1), .val (.int p2), .val (.ref b1), .val (.int v3), .val (.long v4), .second, .val (.int v5), .val (.long v6), .second, .val (.int (own_sp q1)), .val (.int (own_has (own_left q1) p1)), .val (.int (own_sp (own_left q1))), .val (.int (own_has (own_left (own_left q1)) p2))] [(.int v11), (.int (own_has (own_left q1) p1))])) (T10.setFrames fs) by
      by_cases hc111 : v4 < (p1.toInt64)
      · rw [hv11, if_pos hc111] at J111
        show Steps p.tables e below (T10.setTop (mkF m 111 #[.val (.long q1), .second, .val (.int p1), .val (.int p2), .val (.ref b1), .val (.int v3), .val (.long v4), .second, .val (.int v5), .val (.long v6), .second, .val (.int (own_sp q1)), .val (.int (own_has (own_left q1) p1)), .val (.int (own_sp (own_left q1))), .val (.int (own_has (own_left (own_left q1)) p2))] [(.int (lcmpW v4 (p1.toInt64))), (.int (own_has (own_left q1) p1))])) _
        refine XS.ifYes X10.here hx rfl (pc0 := 111) (pc' := 118) rfl (hb hby at_111) rfl ((if0 _ _).trans (tlt ((lw_lt _ _).mpr hc111)).1) (by decide) (by decide) ?_
        show Steps p.tables e below (T10.setTop (mkF m 118 #[.val (.long q1), .second, .val (.int p1), .val (.int p2), .val (.ref b1), .val (.int v3), .val (.long v4), .second, .val (.int v5), .val (.long v6), .second, .val (.int (own_sp q1)), .val (.int (own_has (own_left q1) p1)), .val (.int (own_sp (own_left q1))), .val (.int (own_has (own_left (own_left q1)) p2))] [(.int (own_has (own_left q1) p1))])) _
        refine XS.iconst X10.here hx rfl (hb hby at_118) ?_
        exact J111
      · rw [hv11, if_neg hc111] at J111
        show Steps p.tables e below (T10.setTop (mkF m 111 #[.val (.long q1), .second, .val (.int p1), .val (.int p2), .val (.ref b1), .val (.int v3), .val (.long v4), .second, .val (.int v5), .val (.long v6), .second, .val (.int (own_sp q1)), .val (.int (own_has (own_left q1) p1)), .val (.int (own_sp (own_left q1))), .val (.int (own_has (own_left (own_left q1)) p2))] [(.int (lcmpW v4 (p1.toInt64))), (.int (own_has (own_left q1) p1))])) _
        refine XS.ifNo X10.here hx rfl (hb hby at_111) rfl ((if0 _ _).trans (flt (fun q => hc111 ((lw_lt _ _).mp q))).1) ?_
        show Steps p.tables e below (T10.setTop (mkF m 114 #[.val (.long q1), .second, .val (.int p1), .val (.int p2), .val (.ref b1), .val (.int v3), .val (.long v4), .second, .val (.int v5), .val (.long v6), .second, .val (.int (own_sp q1)), .val (.int (own_has (own_left q1) p1)), .val (.int (own_sp (own_left q1))), .val (.int (own_has (own_left (own_left q1)) p2))] [(.int (own_has (own_left q1) p1))])) _
        refine XS.iconst X10.here hx rfl (hb hby at_114) ?_
        show Steps p.tables e below (T10.setTop (mkF m 115 #[.val (.long q1), .second, .val (.int p1), .val (.int p2), .val (.ref b1), .val (.int v3), .val (.long v4), .second, .val (.int v5), .val (.long v6), .second, .val (.int (own_sp q1)), .val (.int (own_has (own_left q1) p1)), .val (.int (own_sp (own_left q1))), .val (.int (own_has (own_left (own_left q1)) p2))] [(.int (1 : Int32)), (.int (own_has (own_left q1) p1))])) _
        refine XS.goto X10.here hx rfl (pc0 := 115) (pc' := 119) rfl (hb hby at_115) (by decide) (by decide) ?_
        exact J111
    show Steps p.tables e below (T10.setTop (mkF m 119 #[.val (.long q1), .second, .val (.int p1), .val (.int p2), .val (.ref b1), .val (.int v3), .val (.long v4), .second, .val (.int v5), .val (.long v6), .second, .val (.int (own_sp q1)), .val (.int (own_has (own_left q1) p1)), .val (.int (own_sp (own_left q1))), .val (.int (own_has (own_left (own_left q1)) p2))] [(.int v11), (.int (own_has (own_left q1) p1))])) _
    refine XS.icmpNo X10.here hx rfl (hb hby at_119) rfl (teq (by rw [hv11, ha1]; rfl)).2 ?_
    show Steps p.tables e below (T10.setTop (mkF m 122 #[.val (.long q1), .second, .val (.int p1), .val (.int p2), .val (.ref b1), .val (.int v3), .val (.long v4), .second, .val (.int v5), .val (.long v6), .second, .val (.int (own_sp q1)), .val (.int (own_has (own_left q1) p1)), .val (.int (own_sp (own_left q1))), .val (.int (own_has (own_left (own_left q1)) p2))] [])) _
    refine XS.iload X10.here hx rfl (hb hby at_122) rfl ?_
    show Steps p.tables e below (T10.setTop (mkF m 124 #[.val (.long q1), .second, .val (.int p1), .val (.int p2), .val (.ref b1), .val (.int v3), .val (.long v4), .second, .val (.int v5), .val (.long v6), .second, .val (.int (own_sp q1)), .val (.int (own_has (own_left q1) p1)), .val (.int (own_sp (own_left q1))), .val (.int (own_has (own_left (own_left q1)) p2))] [(.int (own_sp (own_left q1)))])) _
    refine XS.iload X10.here hx rfl (hb hby at_124) rfl ?_
    show Steps p.tables e below (T10.setTop (mkF m 126 #[.val (.long q1), .second, .val (.int p1), .val (.int p2), .val (.ref b1), .val (.int v3), .val (.long v4), .second, .val (.int v5), .val (.long v6), .second, .val (.int (own_sp q1)), .val (.int (own_has (own_left q1) p1)), .val (.int (own_sp (own_left q1))), .val (.int (own_has (own_left (own_left q1)) p2))] [(.int v5), (.int (own_sp (own_left q1)))])) _
    refine XS.icmpNo X10.here hx rfl (hb hby at_126) rfl (teq (by rw [hv5, ha1]; rfl)).2 ?_
    show Steps p.tables e below (T10.setTop (mkF m 129 #[.val (.long q1), .second, .val (.int p1), .val (.int p2), .val (.ref b1), .val (.int v3), .val (.long v4), .second, .val (.int v5), .val (.long v6), .second, .val (.int (own_sp q1)), .val (.int (own_has (own_left q1) p1)), .val (.int (own_sp (own_left q1))), .val (.int (own_has (own_left (own_left q1)) p2))] [])) _
    refine XS.iload X10.here hx rfl (hb hby at_129) rfl ?_
    show Steps p.tables e below (T10.setTop (mkF m 131 #[.val (.long q1), .second, .val (.int p1), .val (.int p2), .val (.ref b1), .val (.int v3), .val (.long v4), .second, .val (.int v5), .val (.long v6), .second, .val (.int (own_sp q1)), .val (.int (own_has (own_left q1) p1)), .val (.int (own_sp (own_left q1))), .val (.int (own_has (own_left (own_left q1)) p2))] [(.int (own_has (own_left (own_left q1)) p2))])) _
    refine XS.lload X10.here hx rfl (hb hby at_131) rfl ?_
    show Steps p.tables e below (T10.setTop (mkF m 133 #[.val (.long q1), .second, .val (.int p1), .val (.int p2), .val (.ref b1), .val (.int v3), .val (.long v4), .second, .val (.int v5), .val (.long v6), .second, .val (.int (own_sp q1)), .val (.int (own_has (own_left q1) p1)), .val (.int (own_sp (own_left q1))), .val (.int (own_has (own_left (own_left q1)) p2))] [(.long v6), (.int (own_has (own_left (own_left q1)) p2))])) _
    refine XS.iloadN X10.here hx rfl (hb hby at_133) rfl ?_
    show Steps p.tables e below (T10.setTop (mkF m 134 #[.val (.long q1), .second, .val (.int p1), .val (.int p2), .val (.ref b1), .val (.int v3), .val (.long v4), .second, .val (.int v5), .val (.long v6), .second, .val (.int (own_sp q1)), .val (.int (own_has (own_left q1) p1)), .val (.int (own_sp (own_left q1))), .val (.int (own_has (own_left (own_left q1)) p2))] [(.int p2), (.long v6), (.int (own_has (own_left (own_left q1)) p2))])) _
    refine XS.i2l X10.here hx rfl (hb hby at_134) rfl ?_
    show Steps p.tables e below (T10.setTop (mkF m 135 #[.val (.long q1), .second, .val (.int p1), .val (.int p2), .val (.ref b1), .val (.int v3), .val (.long v4), .second, .val (.int v5), .val (.long v6), .second, .val (.int (own_sp q1)), .val (.int (own_has (own_left q1) p1)), .val (.int (own_sp (own_left q1))), .val (.int (own_has (own_left (own_left q1)) p2))] [(.long (p2.toInt64)), (.long v6), (.int (own_has (own_left (own_left q1)) p2))])) _
    refine XS.lcmp X10.here hx rfl (hb hby at_135) rfl ?_
    suffices J136 : Steps p.tables e below (T10.setTop (mkF m 144 #[.val (.long q1), .second, .val (.int p1), .val (.int p2), .val (.ref b1), .val (.int v3), .val (.long v4), .second, .val (.int v5), .val (.long v6), .second, .val (.int (own_sp q1)), .val (.int (own_has (own_left q1) p1)), .val (.int (own_sp (own_left q1))), .val (.int (own_has (own_left (own_left q1)) p2))] [(.int v12), (.int (own_has (own_left (own_left q1)) p2))])) (T10.setFrames fs) by
      by_cases hc136 : v6 < (p2.toInt64)
      · rw [hv12, if_pos hc136] at J136
        show Steps p.tables e below (T10.setTop (mkF m 136 #[.val (.long q1), .second, .val (.int p1), .val (.int p2), .val (.ref b1), .val (.int v3), .val (.long v4), .second, .val (.int v5), .val (.long v6), .second, .val (.int (own_sp q1)), .val (.int (own_has (own_left q1) p1)), .val (.int (own_sp (own_left q1))), .val (.int (own_has (own_left (own_left q1)) p2))] [(.int (lcmpW v6 (p2.toInt64))), (.int (own_has (own_left (own_left q1)) p2))])) _
        refine XS.ifYes X10.here hx rfl (pc0 := 136) (pc' := 143) rfl (hb hby at_136) rfl ((if0 _ _).trans (tlt ((lw_lt _ _).mpr hc136)).1) (by decide) (by decide) ?_
        show Steps p.tables e below (T10.setTop (mkF m 143 #[.val (.long q1), .second, .val (.int p1), .val (.int p2), .val (.ref b1), .val (.int v3), .val (.long v4), .second, .val (.int v5), .val (.long v6), .second, .val (.int (own_sp q1)), .val (.int (own_has (own_left q1) p1)), .val (.int (own_sp (own_left q1))), .val (.int (own_has (own_left (own_left q1)) p2))] [(.int (own_has (own_left (own_left q1)) p2))])) _
        refine XS.iconst X10.here hx rfl (hb hby at_143) ?_
        exact J136
      · rw [hv12, if_neg hc136] at J136
        show Steps p.tables e below (T10.setTop (mkF m 136 #[.val (.long q1), .second, .val (.int p1), .val (.int p2), .val (.ref b1), .val (.int v3), .val (.long v4), .second, .val (.int v5), .val (.long v6), .second, .val (.int (own_sp q1)), .val (.int (own_has (own_left q1) p1)), .val (.int (own_sp (own_left q1))), .val (.int (own_has (own_left (own_left q1)) p2))] [(.int (lcmpW v6 (p2.toInt64))), (.int (own_has (own_left (own_left q1)) p2))])) _
        refine XS.ifNo X10.here hx rfl (hb hby at_136) rfl ((if0 _ _).trans (flt (fun q => hc136 ((lw_lt _ _).mp q))).1) ?_
        show Steps p.tables e below (T10.setTop (mkF m 139 #[.val (.long q1), .second, .val (.int p1), .val (.int p2), .val (.ref b1), .val (.int v3), .val (.long v4), .second, .val (.int v5), .val (.long v6), .second, .val (.int (own_sp q1)), .val (.int (own_has (own_left q1) p1)), .val (.int (own_sp (own_left q1))), .val (.int (own_has (own_left (own_left q1)) p2))] [(.int (own_has (own_left (own_left q1)) p2))])) _
        refine XS.iconst X10.here hx rfl (hb hby at_139) ?_
        show Steps p.tables e below (T10.setTop (mkF m 140 #[.val (.long q1), .second, .val (.int p1), .val (.int p2), .val (.ref b1), .val (.int v3), .val (.long v4), .second, .val (.int v5), .val (.long v6), .second, .val (.int (own_sp q1)), .val (.int (own_has (own_left q1) p1)), .val (.int (own_sp (own_left q1))), .val (.int (own_has (own_left (own_left q1)) p2))] [(.int (1 : Int32)), (.int (own_has (own_left (own_left q1)) p2))])) _
        refine XS.goto X10.here hx rfl (pc0 := 140) (pc' := 144) rfl (hb hby at_140) (by decide) (by decide) ?_
        exact J136
    show Steps p.tables e below (T10.setTop (mkF m 144 #[.val (.long q1), .second, .val (.int p1), .val (.int p2), .val (.ref b1), .val (.int v3), .val (.long v4), .second, .val (.int v5), .val (.long v6), .second, .val (.int (own_sp q1)), .val (.int (own_has (own_left q1) p1)), .val (.int (own_sp (own_left q1))), .val (.int (own_has (own_left (own_left q1)) p2))] [(.int v12), (.int (own_has (own_left (own_left q1)) p2))])) _
    refine XS.icmpNo X10.here hx rfl (hb hby at_144) rfl (teq (by rw [hv12, ha2]; rfl)).2 ?_
    show Steps p.tables e below (T10.setTop (mkF m 147 #[.val (.long q1), .second, .val (.int p1), .val (.int p2), .val (.ref b1), .val (.int v3), .val (.long v4), .second, .val (.int v5), .val (.long v6), .second, .val (.int (own_sp q1)), .val (.int (own_has (own_left q1) p1)), .val (.int (own_sp (own_left q1))), .val (.int (own_has (own_left (own_left q1)) p2))] [])) _
    refine XS.iconst X10.here hx rfl (hb hby at_147) ?_
    show Steps p.tables e below (T10.setTop (mkF m 148 #[.val (.long q1), .second, .val (.int p1), .val (.int p2), .val (.ref b1), .val (.int v3), .val (.long v4), .second, .val (.int v5), .val (.long v6), .second, .val (.int (own_sp q1)), .val (.int (own_has (own_left q1) p1)), .val (.int (own_sp (own_left q1))), .val (.int (own_has (own_left (own_left q1)) p2))] [(.int (1 : Int32))])) _
    refine XS.goto X10.here hx rfl (pc0 := 148) (pc' := 152) rfl (hb hby at_148) (by decide) (by decide) ?_
    show Steps p.tables e below (T10.setTop (mkF m 152 #[.val (.long q1), .second, .val (.int p1), .val (.int p2), .val (.ref b1), .val (.int v3), .val (.long v4), .second, .val (.int v5), .val (.long v6), .second, .val (.int (own_sp q1)), .val (.int (own_has (own_left q1) p1)), .val (.int (own_sp (own_left q1))), .val (.int (own_has (own_left (own_left q1)) p2))] [(.int (1 : Int32))])) _
    exact retN X10 hx (t := .boolean) Bd.returns (by simp) (hb hby at_152) hr
  · show own_Q_law Z q1 p1 p2  h0 n0 _ T10.heap _
    exact ⟨rfl, N10⟩
set_option maxRecDepth 65536 in
set_option maxHeartbeats 40000000 in
theorem own_comes {Post : Tables → Env → Array Value → State → Outcome → State → Prop} (hpost : ∀ tb e args s v u, (limb_1_1.after args s (.returned v) u = true ∧ limb_1_2.after args s (.returned v) u = true) → FrameEnd s (.returned v) u (Jvm.fieldLocs frame_1_writes args s ++ Jvm.arrayLocs frame_1_arrays args s ++ Jvm.staticLocs frame_1_statics s) 16 128 → Post tb e args s (.returned v) u) :
    ArmFor flags0 classFile x code maxLocals ret World_1 tables_1 room_1 Calls_1 rest_1 Pre_1 Post := by
  intro l hfl _ _ p e ha hc hk s m args below hf hA hF happ hP
  obtain ⟨hcalls, hrest, hpre⟩ := hP
  obtain ⟨-, -, -, hnamed, -, -, -, hat⟩ := (Spec.applies_iff hf).mp happ
  obtain ⟨hg, hn⟩ := and_e (Cond.before_iff.mp (show (Jvm.Cond.and given_1 narrow_1).before args s = true from hpre))
  obtain ⟨gc, gr⟩ := and_e hg
  obtain ⟨ga0, gr0⟩ := and_e gr
  obtain ⟨ga1, gr1⟩ := and_e gr0
  obtain ⟨w0, w1, w2, rfl⟩ : ∃ w0 w1 w2 : Value, args = #[w0, w1, w2] := by
    have hs : args.size = 3 := by simpa [Cond.value, given_1] using gc
    obtain ⟨L⟩ := args
    match L, hs with
    | [w0, w1, w2], _ => exact ⟨w0, w1, w2, rfl⟩
  have hw := fun d (hd : d ∈ tables_1) => atoms_spec (ws := Jvm.Cond.code x code maxLocals ret :: tables_1) hat d (List.mem_cons_of_mem _ hd)
  obtain ⟨i0, ei0⟩ := isL_v ga0
  obtain rfl : w0 = (.long i0) := Option.some.inj ei0
  obtain ⟨i1, ei1⟩ := is_v ga1
  obtain rfl : w1 = (.int i1) := Option.some.inj ei1
  obtain ⟨i2, ei2⟩ := is_v gr1
  obtain rfl : w2 = (.int i2) := Option.some.inj ei2
  obtain ⟨n, o, h1, h2, h3, _, L, rfl, ⟨rfl, N⟩, hq⟩ := own_rm_law l s _ hw tables_1 i0 i1 i2 s.heap s.heap.size (Nat.le_refl _) p e ha hc hk s m _ below hf ((Spec.applies_iff_loose hf).mp happ).1 ⟨rfl, State.Warmed39.refl s, rfl⟩ trivial
  refine ⟨n, _, h1, h2, h3, hpost _ _ _ _ _ _ ⟨Cond.after_iff.mpr rfl, Cond.after_iff.mpr (eq_i res_at (Term.int_eval (1)) rfl)⟩ ⟨hq.1, hq.2.1, (hq.2.2.sift fun y hy => Or.inr (N y hy)).mono (by decide) (by decide)⟩⟩
theorem main_1_1 : Claimed_1_1 := own_comes fun _ _ _ _ _ _ h hF => ⟨h.1, hF⟩
theorem main_1_2 : Claimed_1_2 := own_comes fun _ _ _ _ _ _ h hF => ⟨h.2, hF⟩
end Jvm.Pilot.@@N@@
namespace Jvm.Pilot.@@N@@
open Jvm Jvm.ClassFile Sem Op Lib Jvm.Free Jvm.Stand Jvm.Pilot.@@N@@.Jvm.D
/-! MADE BY PROGRAM (witnessworld.py) out of the Statement's table words and the real class files: 7 classes; the members and pool entries that the words name. The judged class is class 1, her method 1. -/
namespace start1
open Jvm.ClassFile
def u (s : String) : CpInfo := .utf8 (stringToUtf16 s)
/-- a pool by its gaps: so many unusable entries, then the entry; so many at the end -/
def gap : Nat → List CpInfo → List CpInfo
  | 0, r => r
  | n + 1, r => .unusable :: gap n r
def poolList (es : List (Nat × CpInfo)) (last : Nat) : List CpInfo := es.foldr (fun e r => gap e.1 (e.2 :: r)) (gap last [])
def pool (es : List (Nat × CpInfo)) (last : Nat) : Array CpInfo := ⟨poolList es last⟩
def fileOf (pool : Array CpInfo) (this : Nat) (attrs : Array Attribute := #[]) (ms : Array MethodInfo := #[]) (fl : Nat := 33) (sup : Nat := 0) (ifs : Array Nat := #[]) (fds : Array FieldInfo := #[]) : ClassFile where
  minorVersion := 0
  majorVersion := 65
  constantPool := pool
  accessFlags := fl
  thisClass := this
  superClass := sup
  interfaces := ifs
  fields := fds
  methods := ms
  attributes := attrs
def plain (name : String) (sup : Option ClassId) : Class where
  name := name
  kind := .ordinary
  loader := none
  accessFlags := 33
  super := sup
  interfaces := #[]
  cf := none
  fields := #[]
  methods := #[]
  instanceTypes := #[]
  staticTypes := #[]
  resolved := #[]
  callSites := []
  init := .initialized
  statics := none
  mirror := none

def pool0 : Array CpInfo := pool [(5, u "<init>"), (0, u "()V"), (1, .class_ 10), (1, u "java/lang/Object")] 113

def k0c0 : Code := { maxStack := 0, maxLocals := 1, code := object_method_1_code, exceptionTable := #[], attributes := #[] }
def k0m0 : Method := { name := "<init>", desc := "()V", sig := { parameters := [], returnType := none }, accessFlags := 1, code := some k0c0 }
/-- java/lang/Object -/
def k0 : Class := { plain "java/lang/Object" none with
  accessFlags := 33
  interfaces := #[]
  cf := some (fileOf pool0 8 #[] #[{ accessFlags := 1, nameIndex := 5, descriptorIndex := 6, attributes := #[] }] 33 0 #[] #[])
  fields := #[]
  methods := #[k0m0]
  instanceTypes := #[]
  staticTypes := #[]
  resolved := Array.replicate 124 none
  statics := none }

def pool1 : Array CpInfo := pool [(2, .class_ 4), (1, u "java/lang/Object"), (0, u "<init>"), (0, u "()V"), (0, .class_ 8), (0, u "com/example/shardd/shardd/core/MoveBudget"), (0, .methodref 7 10), (0, .nameAndType 5 11), (0, u "(J)V"), (0, .methodref 7 13), (0, .nameAndType 14 15), (0, u "spend"), (0, u "()Z"), (0, .methodref 7 17), (0, .nameAndType 18 19), (0, u "has"), (0, u "(I)Z"), (0, .class_ 21), (0, u "com/example/shardd/shardd/core/MoveBudgetSpendPinLaw"), (2, u "law"), (0, u "(JII)Z")] 3

def k1m0 : Method := { name := "<init>", desc := "()V", sig := { parameters := [], returnType := none }, accessFlags := 2, code := none }
def k1c1 : Code := { maxStack := 5, maxLocals := 15, code := code, exceptionTable := #[], attributes := #[] }
def k1m1 : Method := { name := "law", desc := "(JII)Z", sig := { parameters := [.long, .int, .int], returnType := some .boolean }, accessFlags := 9, code := some k1c1 }
/-- com/example/shardd/shardd/core/MoveBudgetSpendPinLaw -/
def k1 : Class := { plain "com/example/shardd/shardd/core/MoveBudgetSpendPinLaw" (some 0) with
  accessFlags := 49
  interfaces := #[]
  cf := some (fileOf pool1 20 #[] #[{ accessFlags := 2, nameIndex := 5, descriptorIndex := 6, attributes := #[] }, { accessFlags := 9, nameIndex := 24, descriptorIndex := 25, attributes := #[] }] 49 2 #[] #[])
  fields := #[]
  methods := #[k1m0, k1m1]
  instanceTypes := #[]
  staticTypes := #[]
  resolved := Array.replicate 29 none
  statics := none }

def pool2 : Array CpInfo := pool [(1, .methodref 2 3), (0, .class_ 4), (0, .nameAndType 5 6), (0, u "java/lang/Object"), (0, u "<init>"), (0, u "()V"), (0, .fieldref 8 9), (0, .class_ 10), (0, .nameAndType 11 12), (0, u "com/example/shardd/shardd/core/MoveBudget"), (0, u "left"), (0, u "J"), (6, u "(J)V"), (4, u "has"), (0, u "(I)Z"), (1, u "spend"), (0, u "()Z")] 2

def k2c0 : Code := { maxStack := 3, maxLocals := 3, code := prog_68_method_1_code, exceptionTable := #[], attributes := #[] }
def k2m0 : Method := { name := "<init>", desc := "(J)V", sig := { parameters := [.long], returnType := none }, accessFlags := 0, code := some k2c0 }
def k2c1 : Code := { maxStack := 4, maxLocals := 2, code := prog_68_method_3_code, exceptionTable := #[], attributes := #[] }
def k2m1 : Method := { name := "has", desc := "(I)Z", sig := { parameters := [.int], returnType := some .boolean }, accessFlags := 0, code := some k2c1 }
def k2c2 : Code := { maxStack := 5, maxLocals := 2, code := prog_68_method_4_code, exceptionTable := #[], attributes := #[] }
def k2m2 : Method := { name := "spend", desc := "()Z", sig := { parameters := [], returnType := some .boolean }, accessFlags := 0, code := some k2c2 }
/-- com/example/shardd/shardd/core/MoveBudget -/
def k2 : Class := { plain "com/example/shardd/shardd/core/MoveBudget" (some 0) with
  accessFlags := 32
  interfaces := #[]
  cf := some (fileOf pool2 8 #[] #[{ accessFlags := 0, nameIndex := 5, descriptorIndex := 19, attributes := #[] }, { accessFlags := 0, nameIndex := 24, descriptorIndex := 25, attributes := #[] }, { accessFlags := 0, nameIndex := 27, descriptorIndex := 28, attributes := #[] }] 32 2 #[] #[{ accessFlags := 2, nameIndex := 11, descriptorIndex := 12, attributes := #[] }])
  fields := #[{ name := "left", type := .long, accessFlags := 2, slot := 0, constantValue := 0 }]
  methods := #[k2m0, k2m1, k2m2]
  instanceTypes := #[.long]
  staticTypes := #[]
  resolved := Array.replicate 31 none
  statics := none }

def pool3 : Array CpInfo := pool [(1, u "java/lang/Cloneable"), (0, .class_ 1), (0, u "java/lang/Object"), (0, .class_ 3)] 3

/-- java/lang/Cloneable -/
def k3 : Class := { plain "java/lang/Cloneable" (some 0) with
  accessFlags := 1537
  interfaces := #[]
  cf := some (fileOf pool3 2 #[] #[] 1537 4 #[] #[])
  fields := #[]
  methods := #[]
  instanceTypes := #[]
  staticTypes := #[]
  resolved := Array.replicate 8 none
  statics := none }

def pool4 : Array CpInfo := pool [(1, u "java/io/Serializable"), (0, .class_ 1), (0, u "java/lang/Object"), (0, .class_ 3)] 3

/-- java/io/Serializable -/
def k4 : Class := { plain "java/io/Serializable" (some 0) with
  accessFlags := 1537
  interfaces := #[]
  cf := some (fileOf pool4 2 #[] #[] 1537 4 #[] #[])
  fields := #[]
  methods := #[]
  instanceTypes := #[]
  staticTypes := #[]
  resolved := Array.replicate 8 none
  statics := none }

/-- the primitive byte -/
def k5 : Class := { plain "byte" none with kind := .primitive 'B', accessFlags := 0x411 }
/-- [B -/
def k6 : Class := { plain "[B" (some 0) with kind := .array 5 .byte, interfaces := #[3, 4], accessFlags := 1041 }

def heap : Heap := #[]
def classes : Array Class := #[k0, k1, k2, k3, k4, k5, k6]
def interned : List (Array UInt16 × Addr) := []
def slotsUsed : Nat := 0
def theMethod : MethodId := ⟨1, 1⟩
def args0 : Array Value := #[.long 5, .int 1, .int 2]
def aboutOver (below : List Frame) : State where
  vm := { classes := classes, interned := interned.toArray }
  heap := heap
  slotsUsed := slotsUsed
  threads := #[{ frames := .invoking theMethod args0 :: below }]
def below0 : List Frame := [.native { method := ⟨0, 0⟩, args := #[] }]
def about1 : State := aboutOver below0
def p0 : Program := .bare "" "" ""
def e0 : Env := launch0.env 0 0 0
theorem w_frames : about1.frames = Frame.invoking theMethod args0 :: below0 := rfl
set_option maxRecDepth 65536 in
theorem w_args : argsFit about1.vm theMethod args0 = true := by decide +kernel
set_option maxRecDepth 65536 in
theorem w_heap : heapFits about1 = true := by decide +kernel
set_option maxRecDepth 65536 in
theorem w_runnable : about1.curStatus? = some .runnable := by decide +kernel
set_option maxRecDepth 65536 in
theorem w_alone : about1.alone = true := by decide +kernel
set_option maxRecDepth 65536 in
theorem w_named : about1.methodNamed? x = some theMethod := by decide +kernel
set_option maxRecDepth 65536 in
theorem w_hears : about1.hears theMethod below0 = true := by decide +kernel
set_option maxRecDepth 65536 in
theorem w_ripe : about1.ripe theMethod args0 below0 = true := by decide +kernel
theorem w_running : about1.status = .running := rfl
set_option maxRecDepth 65536 in
theorem w_room : about1.hasRoom e0.platform room_1 = true :=
  launch0.hasRoom_least _ room_1 (by decide +kernel) (by decide +kernel) (by decide +kernel) (by decide +kernel) (by decide +kernel) (by decide +kernel)
theorem allAtoms_all (ts : List Jvm.Cond) (a : Array Jvm.Value) (st : Jvm.State) : (allAtoms ts).before a st = ts.all (fun c => c.before a st) := by
  induction ts with
  | nil => rfl
  | cons c t ih =>
    show (Jvm.Cond.and c (allAtoms t)).before a st = _
    rw [Jvm.Cond.before_and, ih, List.all_cons]
def words1 : List Jvm.Cond := Jvm.Cond.code x code maxLocals ret :: tables_1
/-- a 'code' word, met by the world's own term for the bytes: nothing is compared byte by byte -/
theorem code_word {y : MethodName} {bytes : ByteArray} {mx : Nat} {rt : Option FieldType} {a : Array Value} {s : State} {m : MethodId} {meth : Method} {c : Code} (h1 : s.methodNamed? y = some m) (h2 : s.vm.method? m = some meth) (h3 : meth.code = some c) (h4 : c.code = bytes)
    (h5 : (c.maxLocals == mx && c.exceptionTable.isEmpty && decide (c.maxStack ≤ mostOperands) && decide (meth.sig.returnType = rt) && !meth.locks && decide (parseMethodDescriptor y.desc = some meth.sig)) = true) : (Jvm.Cond.code y bytes mx rt).before a s = true := by
  simp only [Bool.and_eq_true, beq_iff_eq, Bool.not_eq_true', decide_eq_true_eq] at h5
  obtain ⟨⟨⟨⟨⟨g1, g2⟩, g3⟩, g4⟩, g5⟩, g6⟩ := h5
  simp [Cond.before, Cond.holds, Cond.value, h1, h2, h3, h4, g1, g2, g3, g4, g5, g6]
def isCode : Jvm.Cond → Bool
  | .code _ _ _ _ => true
  | _ => false
theorem all_split {L : List Jvm.Cond} {P : Jvm.Cond → Bool} (h1 : L.all (fun c => isCode c || P c) = true) (h2 : ∀ c ∈ L.filter isCode, P c = true) : L.all P = true := by
  refine List.all_eq_true.mpr fun c hc => ?_
  have h := List.all_eq_true.mp h1 c hc
  rcases Bool.eq_false_or_eq_true (isCode c) with hi | hi
  · exact h2 c (List.mem_filter.mpr ⟨hc, hi⟩)
  · simpa [hi] using h
set_option maxRecDepth 65536 in
theorem w_c0 : (Jvm.Cond.code x code maxLocals ret).before args0 about1 = true := code_word (m := ⟨1, 1⟩) (meth := k1m1) (c := k1c1) (by decide +kernel) rfl rfl rfl (by decide +kernel)
set_option maxRecDepth 65536 in
theorem w_c1 : (Jvm.Cond.code ({ cls := "com/example/shardd/shardd/core/MoveBudget", name := "<init>", desc := "(J)V" } : Jvm.MethodName) prog_68_method_1_code (3 : Nat) (Option.none : Option Jvm.ClassFile.FieldType)).before args0 about1 = true := code_word (m := ⟨2, 0⟩) (meth := k2m0) (c := k2c0) (by decide +kernel) rfl rfl rfl (by decide +kernel)
set_option maxRecDepth 65536 in
theorem w_c2 : (Jvm.Cond.code ({ cls := "java/lang/Object", name := "<init>", desc := "()V" } : Jvm.MethodName) object_method_1_code (1 : Nat) (Option.none : Option Jvm.ClassFile.FieldType)).before args0 about1 = true := code_word (m := ⟨0, 0⟩) (meth := k0m0) (c := k0c0) (by decide +kernel) rfl rfl rfl (by decide +kernel)
set_option maxRecDepth 65536 in
theorem w_c3 : (Jvm.Cond.code ({ cls := "com/example/shardd/shardd/core/MoveBudget", name := "spend", desc := "()Z" } : Jvm.MethodName) prog_68_method_4_code (2 : Nat) (Option.some Jvm.ClassFile.FieldType.boolean)).before args0 about1 = true := code_word (m := ⟨2, 2⟩) (meth := k2m2) (c := k2c2) (by decide +kernel) rfl rfl rfl (by decide +kernel)
set_option maxRecDepth 65536 in
theorem w_c4 : (Jvm.Cond.code ({ cls := "com/example/shardd/shardd/core/MoveBudget", name := "has", desc := "(I)Z" } : Jvm.MethodName) prog_68_method_3_code (2 : Nat) (Option.some Jvm.ClassFile.FieldType.boolean)).before args0 about1 = true := code_word (m := ⟨2, 1⟩) (meth := k2m1) (c := k2c1) (by decide +kernel) rfl rfl rfl (by decide +kernel)
def codes1 : List Jvm.Cond := [Jvm.Cond.code x code maxLocals ret, Jvm.Cond.code ({ cls := "com/example/shardd/shardd/core/MoveBudget", name := "<init>", desc := "(J)V" } : Jvm.MethodName) prog_68_method_1_code (3 : Nat) (Option.none : Option Jvm.ClassFile.FieldType), Jvm.Cond.code ({ cls := "java/lang/Object", name := "<init>", desc := "()V" } : Jvm.MethodName) object_method_1_code (1 : Nat) (Option.none : Option Jvm.ClassFile.FieldType), Jvm.Cond.code ({ cls := "com/example/shardd/shardd/core/MoveBudget", name := "spend", desc := "()Z" } : Jvm.MethodName) prog_68_method_4_code (2 : Nat) (Option.some Jvm.ClassFile.FieldType.boolean), Jvm.Cond.code ({ cls := "com/example/shardd/shardd/core/MoveBudget", name := "has", desc := "(I)Z" } : Jvm.MethodName) prog_68_method_3_code (2 : Nat) (Option.some Jvm.ClassFile.FieldType.boolean)]
set_option maxRecDepth 65536 in
theorem codes_eq : words1.filter isCode = codes1 := rfl
theorem w_codes : ∀ c ∈ words1.filter isCode, c.before args0 about1 = true := by
  rw [codes_eq]
  intro c hc
  simp only [codes1, List.mem_cons, List.not_mem_nil, or_false] at hc
  rcases hc with rfl | rfl | rfl | rfl | rfl
  · exact w_c0
  · exact w_c1
  · exact w_c2
  · exact w_c3
  · exact w_c4
set_option maxRecDepth 65536 in
theorem w_t1 : words1.all (fun c => isCode c || c.before args0 about1) = true := by decide +kernel
theorem w_tables : (allAtoms (Jvm.Cond.code x code maxLocals ret :: tables_1)).before args0 about1 = true := by
  rw [allAtoms_all]
  show words1.all (fun c => c.before args0 about1) = true
  refine all_split ?_ w_codes
  rw [w_t1]
set_option maxRecDepth 65536 in
theorem w_case : (Jvm.Cond.and given_1 narrow_1).before args0 about1 = true := by decide +kernel
theorem w_applies : (headSpec (Jvm.Cond.code x code maxLocals ret :: tables_1) room_1).applies x e0.platform about1 = true :=
  (Spec.applies_iff w_frames).mpr ⟨w_running, w_runnable, w_alone, w_named, w_hears, w_ripe, w_room, w_tables⟩
theorem atStart : AtStart classFile x code maxLocals ret World_1 tables_1 room_1 Calls_1 rest_1 Pre_1 launch0 p0 e0 about1 theMethod args0 below0 :=
  ⟨lists_1, trivial, launch0.admits_env _ _ _, launch0.least_env, fairChoices_fair.cas, fairChoices_fair.clock, w_frames, w_args, w_heap, w_applies, trivial, trivial, w_case⟩
end start1
theorem witness_1 : WitnessClaimed_1 := ⟨start1.p0, start1.e0, start1.about1, start1.theMethod, start1.args0, start1.below0, start1.atStart⟩
end Jvm.Pilot.@@N@@
