import JvmDerived
import JvmDerived.Pilot.@@N@@Statement
import JvmDerived.Pilot.@@N@@Code
set_option linter.unusedVariables false
set_option linter.unusedSimpArgs false
namespace Jvm.RoadKit
open Sem ClassFile Op Lib Jvm.Stand Jvm.Free Jvm.LawKit
section New
variable {p : Program} {l : Launch} {e : Env} {R : Room} {s : State} {m : MethodId} {args : Array Value} {below : List Frame} {meth : Method} {c : Code} {T : State} {locs : List Loc} {cells slots : Nat}
theorem retI (X : Stand p l e R s m args below meth c T locs cells slots) (hx : p.tables.exec = Jvm.exec) {pc : Nat} {Ls : Array Slot} {z : Int32} {rest : List Value} (hret : meth.sig.returnType = some .int) (hd : decode c.code pc = .ok (.ireturn, 1)) {fs : List Frame}
    (hl : ∀ (f : JFrame) (acts : List Action), f.method = m → f.locked = none → f.entered = [] → (doReturn e (T.setTop f) acts (some (.int z))).1 = T.setFrames fs) : Steps p.tables e below (T.setTop (mkF m pc Ls (.int z :: rest))) (T.setFrames fs) := by
  have hm' : T.vm.method? m = some meth := X.method'
  have hn : narrow .int (.int z) = .int z := rfl
  show Steps p.tables e below (T.setTop { method := m, pc := pc, locals := Ls, stack := _ :: rest, locked := none }) _
  jvm_step X.here [X.here.top, hx, hd, hm', hret, hn]
  first | (intro acts; rw [hl _ acts rfl rfl rfl]) | rw [hl _ _ rfl rfl rfl]
  exact Steps.refl _
end New
end Jvm.RoadKit
namespace Jvm.Pilot.@@N@@
open Jvm Jvm.ClassFile Sem Op Lib Jvm.Free Jvm.Stand Jvm.LawKit Jvm.RoadKit Bundle Jvm.Pilot.@@N@@.Jvm.D
theorem own_selP {Z : State} {a0 : Array Value} {y : MethodName} {n : Nat} (w1 : (Jvm.Cond.instantiable y.cls n).before a0 Z = true) (w2 : (Jvm.Cond.privateMethod y).before a0 Z = true) (w3 : (Jvm.Cond.instanceMethod y).before a0 Z = true) (hy : y.cls ≠ "java/lang/invoke/MethodHandle" ∧ y.cls ≠ "java/lang/invoke/VarHandle") : (Jvm.Cond.selects y.cls y y).before a0 Z = true := by
  obtain ⟨c, k, h1, h2, h3, h4, -⟩ := Cond.instantiable_spec w1
  exact selects_self_of_private h1 h2 (by simp only [Bool.or_eq_false_iff] at h4; exact h4.1) (Cond.privateMethod_at w2) w3 hy
theorem own_pos31 (x : Int32) : 0 ≤ (x &&& 2147483647).toInt := by
  have : (x &&& 2147483647).toBitVec.msb = false := by
    show (x.toBitVec &&& (2147483647 : Int32).toBitVec).msb = false
    rw [BitVec.msb_and, show ((2147483647 : Int32).toBitVec).msb = false from by decide, Bool.and_false]
  show 0 ≤ (x &&& 2147483647).toBitVec.toInt
  rw [BitVec.toInt_eq_msb_cond, this]
  simp
theorem own_n {x n : Int32} (h : n = (x &&& (2147483647 : Int32)) % (6 : Int32)) : 0 ≤ n.toInt ∧ n.toInt ≤ 5 := by
  have h0 := own_pos31 x
  rw [h, Int32.toInt_mod, show (6 : Int32).toInt = 6 from by decide]
  have h1 := Int.tmod_nonneg 6 h0
  have h2 := Int.tmod_lt_of_pos (x &&& 2147483647).toInt (b := 6) (by decide)
  omega
theorem own_k {y n c left k : Int32} (hl : left = n - c) (hc : 0 ≤ c.toInt ∧ c.toInt ≤ n.toInt ∧ n.toInt ≤ 5) (hk : k = (y &&& (2147483647 : Int32)) % (left + (1 : Int32))) : 0 ≤ c.toInt ∧ 0 ≤ k.toInt ∧ c.toInt + k.toInt ≤ n.toInt ∧ n.toInt ≤ 5 := by
  have e1 : left.toInt = n.toInt - c.toInt := by rw [hl, Int32.toInt_sub, Int.bmod_eq_of_le (by omega) (by omega)]
  have e2 : (left + 1).toInt = n.toInt - c.toInt + 1 := by rw [Int32.toInt_add, e1, show (1 : Int32).toInt = 1 from by decide, Int.bmod_eq_of_le (by omega) (by omega)]
  have h0 := own_pos31 y
  have h1 := Int.tmod_nonneg (n.toInt - c.toInt + 1) h0
  have h2 := Int.tmod_lt_of_pos (y &&& 2147483647).toInt (b := n.toInt - c.toInt + 1) (by omega)
  have e3 : k.toInt = (y &&& 2147483647).toInt.tmod (n.toInt - c.toInt + 1) := by rw [hk, Int32.toInt_mod, e2]
  omega
theorem own_nz {n c left : Int32} (hl : left = n - c) (hc : 0 ≤ c.toInt ∧ c.toInt ≤ n.toInt ∧ n.toInt ≤ 5) : left + (1 : Int32) ≠ 0 := by
  have e1 : left.toInt = n.toInt - c.toInt := by rw [hl, Int32.toInt_sub, Int.bmod_eq_of_le (by omega) (by omega)]
  have e2 : (left + 1).toInt = n.toInt - c.toInt + 1 := by rw [Int32.toInt_add, e1, show (1 : Int32).toInt = 1 from by decide, Int.bmod_eq_of_le (by omega) (by omega)]
  intro h
  rw [h, show (0 : Int32).toInt = 0 from by decide] at e2
  omega
theorem own_go {n c k q i : Int32} {j : Int} (hb : 0 ≤ c.toInt ∧ 0 ≤ k.toInt ∧ c.toInt + k.toInt ≤ n.toInt ∧ n.toInt ≤ 5) (hq : q.toInt = c.toInt + min k.toInt j) (hj : 0 ≤ j) (hi : i.toInt = j + 1) (h : ¬ k < i) : ¬ q < (0 : Int32) ∧ q < n ∧ ¬ (n - q) < (1 : Int32) := by
  rw [Int32.lt_iff_toInt_lt] at h
  have e1 : (n - q).toInt = n.toInt - q.toInt := by rw [Int32.toInt_sub, Int.bmod_eq_of_le (by omega) (by omega)]
  simp only [Int32.lt_iff_toInt_lt, e1, show (0 : Int32).toInt = 0 from by decide, show (1 : Int32).toInt = 1 from by decide]
  omega
theorem own_next {n c k q q' i : Int32} {j j' : Int} (hb : 0 ≤ c.toInt ∧ 0 ≤ k.toInt ∧ c.toInt + k.toInt ≤ n.toInt ∧ n.toInt ≤ 5) (hq : q.toInt = c.toInt + min k.toInt j) (hj : 0 ≤ j) (hi : i.toInt = j + 1) (hq' : q' = if k < i then q else (q + (1 : Int32))) (hj' : j' = j + 1) : q'.toInt = c.toInt + min k.toInt j' := by
  subst hj'
  by_cases h : k < i
  · rw [hq', if_pos h]; rw [Int32.lt_iff_toInt_lt] at h; omega
  · rw [hq', if_neg h, Int32.toInt_add, show (1 : Int32).toInt = 1 from by decide, Int.bmod_eq_of_le (by omega) (by omega)]; rw [Int32.lt_iff_toInt_lt] at h; omega
theorem own_last {n c k q : Int32} (hb : 0 ≤ c.toInt ∧ 0 ≤ k.toInt ∧ c.toInt + k.toInt ≤ n.toInt ∧ n.toInt ≤ 5) (hq : q.toInt = c.toInt + min k.toInt 5) : q = (c + k) := by
  apply Int32.toInt_inj.mp
  rw [hq, Int32.toInt_add, Int.bmod_eq_of_le (by omega) (by omega)]
  omega
theorem own_four {n : Int32} (h0 : n.toInt ≤ 5) (h : ¬ n < (4 : Int32)) : ((0 : Int32) < n ∧ ((0 : Int32) + (1 : Int32)) < n ∧ ((0 : Int32) + (2 : Int32)) < n ∧ ((0 : Int32) + (3 : Int32)) < n) ∧ ¬ ((n - (0 : Int32)) < (4 : Int32)) ∧ 4 ≤ n.toInt := by
  rw [Int32.lt_iff_toInt_lt, show (4 : Int32).toInt = 4 from by decide] at h
  rw [Int32.sub_zero]
  simp only [Int32.lt_iff_toInt_lt, show (0 : Int32).toInt = 0 from by decide, show ((0 : Int32) + 1).toInt = 1 from by decide, show ((0 : Int32) + 2).toInt = 2 from by decide, show ((0 : Int32) + 3).toInt = 3 from by decide, show (4 : Int32).toInt = 4 from by decide]
  omega
theorem own_nat {n : Int32} (h : 0 ≤ n.toInt ∧ n.toInt ≤ 5) : ¬ n < (0 : Int32) ∧ n.toNatClampNeg ≤ 5 := by
  rw [Int32.lt_iff_toInt_lt, show (0 : Int32).toInt = 0 from by decide]
  constructor
  · omega
  · simp only [Int32.toNatClampNeg]; omega
/-- a reader over zeros: its array, the length, the place -/
def own_Rd (Z : State) (h : Heap) (r b : Addr) (k : ClassId) (n q : Int32) : Prop := Exa Z h r "com/example/accordant/accordant/FieldReader" ∧ Fld Z h r "com/example/accordant/accordant/FieldReader" "fields" "[B" (.ref b) ∧ Fld Z h r "com/example/accordant/accordant/FieldReader" "position" "I" (.int q) ∧ Arv Z h b k .byte n [] (defaultValue .byte) ∧ b ≠ r
def own_end (q n : Int32) : Int32 := if q = n then (1 : Int32) else (0 : Int32)
theorem own_d_prog_5_method_1_0 : decode prog_5_method_1_code 0 = .ok (.aload_n 0, 1) := by decide +kernel
theorem own_d_prog_5_method_1_1 : decode prog_5_method_1_code 1 = .ok (.invokespecial 1, 3) := by decide +kernel
theorem own_d_prog_5_method_1_4 : decode prog_5_method_1_code 4 = .ok (.aload_n 0, 1) := by decide +kernel
theorem own_d_prog_5_method_1_5 : decode prog_5_method_1_code 5 = .ok (.aload_n 1, 1) := by decide +kernel
theorem own_d_prog_5_method_1_6 : decode prog_5_method_1_code 6 = .ok (.putfield 7, 3) := by decide +kernel
theorem own_d_prog_5_method_1_9 : decode prog_5_method_1_code 9 = .ok (.return_, 1) := by decide +kernel
theorem own_pn0 : plainName "com/example/accordant/accordant/FieldReader" = true := by first | (simp [plainName, overriddenIn]; done) | decide +kernel
theorem own_ef_init (m : MethodId) (x0 : Addr) (x1 : Addr) : entryFrame m #[(.ref x0), (.ref x1)] 2 = mkF m 0 #[.val (.ref x0), .val (.ref x1)] [] := by first | (simp [entryFrame, mkF, argsToLocals, Value.category]; done) | rfl
def own_Q_init (Z : State) (a1 : Addr) (b : Addr) (k : ClassId) (n : Int32) (h0 : Heap) (n0 : Nat) (v : Option Value) (h : Heap) (L : List Loc) : Prop := v = none ∧ Fr n0 L ∧ own_Rd Z h a1 b k n (0 : Int32) ∧ n0 ≤ h.size
set_option maxRecDepth 65536 in
set_option maxHeartbeats 40000000 in
theorem own_rm_init (l : Launch) (Z : State) (a0 : Array Value) (hw : ∀ d ∈ tables_1, d.before a0 Z = true) (ws : List Jvm.Cond) (a1 : Addr) (b : Addr) (k : ClassId) (n : Int32) (h0 : Heap) (n0 : Nat) (Z0 : n0 ≤ h0.size) (E0 : Exa Z h0 a1 "com/example/accordant/accordant/FieldReader") (F0f : Fld Z h0 a1 "com/example/accordant/accordant/FieldReader" "fields" "[B" .null) (F0p : Fld Z h0 a1 "com/example/accordant/accordant/FieldReader" "position" "I" (.int (0 : Int32))) (V0 : Arv Z h0 b k .byte n [] (defaultValue .byte)) (ne0 : b ≠ a1) (g0 : n0 ≤ a1) :
    MetFree l (⟨"com/example/accordant/accordant/FieldReader", "<init>", "([B)V"⟩ : MethodName) (head1 (Jvm.Cond.code (⟨"com/example/accordant/accordant/FieldReader", "<init>", "([B)V"⟩ : MethodName) prog_5_method_1_code 2 none :: ws) ({ frames := 1, cells := 0, slots := 0, locals := 12 } : Room)) (fun a U => a = #[(.ref a1), (.ref b)] ∧ Z.Warmed39 U.vm ∧ U.heap = h0) (fun _ _ _ _ _ => True) (fun _ U o U' => ∃ v L, o = .returned v ∧ own_Q_init Z a1 b k n h0 n0 v U'.heap L ∧ FrameEnd U o U' L ({ frames := 1, cells := 0, slots := 0, locals := 12 } : Room).cells ({ frames := 1, cells := 0, slots := 0, locals := 12 } : Room).slots) := by
  refine MetFree.of_bodySF (plainFor_of_name own_pn0) hisR ?_
  intro p e s m args below meth c s₁ Bd hml0 hP hK
  obtain ⟨rfl, hZ, hh⟩ := hP
  have hx := Bd.exec
  have hby := Bd.bytes
  have hml : c.maxLocals = 2 := hml0
  have hown : s.vm.findClass "com/example/accordant/accordant/FieldReader" = some m.cls := findClass_of_methodNamed Bd.named
  have hnm := (name_of_methodNamed Bd.named Bd.method).1
  have X0 : Stand p l e ({ frames := 1, cells := 0, slots := 0, locals := 12 } : Room) s m #[(.ref a1), (.ref b)] below meth c s₁ [] 0 0 := Stand.of_body Bd
  have e0 : s₁.heap = h0 := by rw [← hh, Bd.state]; rfl
  have N0 := Fr.nil n0
  have pre0 : ∀ t, Steps p.tables e below (s₁.setTop (mkF m 0 #[.val (.ref a1), .val (.ref b)] [])) t → Steps p.tables e below (s₁.setTop (entryFrame m #[(.ref a1), (.ref b)] 2)) t := fun t k => castTop (own_ef_init m a1 b) k
  obtain ⟨T1, X1, e1, st1⟩ := initO X0 hx hZ hown (hw _ (List.mem_of_getElem? (i := 8) rfl)) (hw _ (List.mem_of_getElem? (i := 9) rfl)) (hw _ (List.mem_of_getElem? (i := 10) rfl)) e0 (g := (mkF m 1 #[.val (.ref a1), .val (.ref b)] [(.ref a1)])) rfl (by rw [hml]; rfl) rfl (hb hby own_d_prog_5_method_1_1) (by decide) (W := 0) (by show 2 * 0 + _ ≤ _; exact Nat.le_of_eq rfl) (by decide)
  obtain ⟨T2, h2, X2, e2, W2, st2⟩ := putF X1 hx hZ hown (host := "") (Or.inl (hw _ (List.mem_of_getElem? (i := 11) rfl))) Via.refl e1 F0f E0 (Or.inr ⟨(hw _ (List.mem_of_getElem? (i := 12) rfl)), rfl, hnm⟩) (hw _ (List.mem_of_getElem? (i := 3) rfl)) (ty := (.array .byte)) (by decide) rfl rfl (g := (mkF m 6 #[.val (.ref a1), .val (.ref b)] [(.ref b), (.ref a1)])) rfl rfl (hb hby own_d_prog_5_method_1_6)
  have E2_a1 := E0.wr W2
  have Fw2_a1_fields := F0f.same W2
  have Fw2_a1_position := F0p.other W2 (Or.inr (slot_ne (Or.inl (hw _ (List.mem_of_getElem? (i := 19) rfl))) (Or.inr (hw _ (List.mem_of_getElem? (i := 12) rfl))) (by decide) (t := .int) (t' := (.array .byte)) (by decide) (by decide)))
  have Vw2_b := V0.other W2 ne0
  have N2 := Fr.snoc X2 N0 g0
  have Z2 := Nat.le_trans Z0 (Keep.of_wr W2).1
  obtain ⟨fs, hr, hrun, hended, hW, hsame⟩ := X2.leave (v := none) (fun _ => rfl)
  refine ⟨_, _, pre0 _ ?_, hrun, hended, _, _, rfl, ?_, ⟨_, rfl⟩, hW, hsame.mono (by decide) (by decide)⟩
  · show Steps p.tables e below (s₁.setTop (mkF m 0 #[.val (.ref a1), .val (.ref b)] [])) _
    refine XS.aloadN X0.here hx rfl (hb hby own_d_prog_5_method_1_0) rfl rfl ?_
    show Steps p.tables e below (s₁.setTop (mkF m 1 #[.val (.ref a1), .val (.ref b)] [(.ref a1)])) _
    refine st1 _ ?_
    show Steps p.tables e below (T1.setTop (mkF m 4 #[.val (.ref a1), .val (.ref b)] [])) _
    refine XS.aloadN X1.here hx rfl (hb hby own_d_prog_5_method_1_4) rfl rfl ?_
    show Steps p.tables e below (T1.setTop (mkF m 5 #[.val (.ref a1), .val (.ref b)] [(.ref a1)])) _
    refine XS.aloadN X1.here hx rfl (hb hby own_d_prog_5_method_1_5) rfl rfl ?_
    show Steps p.tables e below (T1.setTop (mkF m 6 #[.val (.ref a1), .val (.ref b)] [(.ref b), (.ref a1)])) _
    refine st2 _ ?_
    show Steps p.tables e below (T2.setTop (mkF m 9 #[.val (.ref a1), .val (.ref b)] [])) _
    exact X2.returnOut hx Bd.returns (hb hby own_d_prog_5_method_1_9) hr
  · show own_Q_init Z a1 b k n h0 n0 _ T2.heap _
    rw [e2]
    exact ⟨rfl, N2, ⟨E2_a1, Fw2_a1_fields, Fw2_a1_position, Vw2_b, ne0⟩, Z2⟩
theorem own_d_prog_5_method_7_0 : decode prog_5_method_7_code 0 = .ok (.aload_n 0, 1) := by decide +kernel
theorem own_d_prog_5_method_7_1 : decode prog_5_method_7_code 1 = .ok (.getfield 17, 3) := by decide +kernel
theorem own_d_prog_5_method_7_4 : decode prog_5_method_7_code 4 = .ok (.aload_n 0, 1) := by decide +kernel
theorem own_d_prog_5_method_7_5 : decode prog_5_method_7_code 5 = .ok (.getfield 7, 3) := by decide +kernel
theorem own_d_prog_5_method_7_8 : decode prog_5_method_7_code 8 = .ok (.arraylength, 1) := by decide +kernel
theorem own_d_prog_5_method_7_9 : decode prog_5_method_7_code 9 = .ok (.if_icmp .ne 7, 3) := by decide +kernel
theorem own_d_prog_5_method_7_12 : decode prog_5_method_7_code 12 = .ok (.iconst 1, 1) := by decide +kernel
theorem own_d_prog_5_method_7_13 : decode prog_5_method_7_code 13 = .ok (.goto 4, 3) := by decide +kernel
theorem own_d_prog_5_method_7_17 : decode prog_5_method_7_code 17 = .ok (.ireturn, 1) := by decide +kernel
theorem own_d_prog_5_method_7_16 : decode prog_5_method_7_code 16 = .ok (.iconst 0, 1) := by decide +kernel
theorem own_ef_atend (m : MethodId) (x0 : Addr) : entryFrame m #[(.ref x0)] 1 = mkF m 0 #[.val (.ref x0)] [] := by first | (simp [entryFrame, mkF, argsToLocals, Value.category]; done) | rfl
def own_Q_atend (Z : State) (a1 : Addr) (b : Addr) (k : ClassId) (n q : Int32) (h0 : Heap) (n0 : Nat) (v : Option Value) (h : Heap) (L : List Loc) : Prop := v = some (.int (own_end q n)) ∧ Fr n0 L ∧ h = h0
set_option maxRecDepth 65536 in
set_option maxHeartbeats 40000000 in
theorem own_rm_atend (l : Launch) (Z : State) (a0 : Array Value) (hw : ∀ d ∈ tables_1, d.before a0 Z = true) (ws : List Jvm.Cond) (a1 : Addr) (b : Addr) (k : ClassId) (n q : Int32) (h0 : Heap) (n0 : Nat) (Z0 : n0 ≤ h0.size) (O0 : own_Rd Z h0 a1 b k n q) :
    MetFree l (⟨"com/example/accordant/accordant/FieldReader", "atEnd", "()Z"⟩ : MethodName) (head1 (Jvm.Cond.code (⟨"com/example/accordant/accordant/FieldReader", "atEnd", "()Z"⟩ : MethodName) prog_5_method_7_code 1 (some .boolean) :: ws) ({ frames := 0, cells := 0, slots := 0, locals := 0 } : Room)) (fun a U => a = #[(.ref a1)] ∧ Z.Warmed39 U.vm ∧ U.heap = h0) (fun _ _ _ _ _ => True) (fun _ U o U' => ∃ v L, o = .returned v ∧ own_Q_atend Z a1 b k n q h0 n0 v U'.heap L ∧ FrameEnd U o U' L ({ frames := 0, cells := 0, slots := 0, locals := 0 } : Room).cells ({ frames := 0, cells := 0, slots := 0, locals := 0 } : Room).slots) := by
  refine MetFree.of_bodySF (plainFor_of_name own_pn0) hisR ?_
  intro p e s m args below meth c s₁ Bd hml0 hP hK
  obtain ⟨rfl, hZ, hh⟩ := hP
  have hx := Bd.exec
  have hby := Bd.bytes
  have hml : c.maxLocals = 1 := hml0
  have hown : s.vm.findClass "com/example/accordant/accordant/FieldReader" = some m.cls := findClass_of_methodNamed Bd.named
  have hnm := (name_of_methodNamed Bd.named Bd.method).1
  have X0 : Stand p l e ({ frames := 0, cells := 0, slots := 0, locals := 0 } : Room) s m #[(.ref a1)] below meth c s₁ [] 0 0 := Stand.of_body Bd
  have e0 : s₁.heap = h0 := by rw [← hh, Bd.state]; rfl
  have N0 := Fr.nil n0
  have pre0 : ∀ t, Steps p.tables e below (s₁.setTop (mkF m 0 #[.val (.ref a1)] [])) t → Steps p.tables e below (s₁.setTop (entryFrame m #[(.ref a1)] 1)) t := fun t k => castTop (own_ef_atend m a1) k
  obtain ⟨E0, F0f, F0p, V0, ne0⟩ := O0
  obtain ⟨r0, hr0⟩ : ∃ z : Int32, z = own_end q n := ⟨_, rfl⟩
  obtain ⟨T1, X1, e1, st1⟩ := getF X0 hx hZ hown (host := "") (Or.inl (hw _ (List.mem_of_getElem? (i := 18) rfl))) Via.refl e0 F0p (g := (mkF m 1 #[.val (.ref a1)] [(.ref a1)])) rfl rfl (hb hby own_d_prog_5_method_7_1)
  obtain ⟨T2, X2, e2, st2⟩ := getF X1 hx hZ hown (host := "") (Or.inl (hw _ (List.mem_of_getElem? (i := 11) rfl))) Via.refl e1 F0f (g := (mkF m 5 #[.val (.ref a1)] [(.ref a1), (.int q)])) rfl rfl (hb hby own_d_prog_5_method_7_5)
  have Vt3 := V0
  obtain ⟨cl3, Ar3, -, Sz3, Nn3, -, -⟩ := Vt3
  obtain ⟨fs, hr, hrun, hended, hW, hsame⟩ := X2.leave (v := some (.int r0)) (fun h => by rw [Bd.returns] at h; cases h)
  refine ⟨_, _, pre0 _ ?_, hrun, hended, _, _, rfl, ?_, ⟨_, rfl⟩, hW, hsame.mono (by decide) (by decide)⟩
  · show Steps p.tables e below (s₁.setTop (mkF m 0 #[.val (.ref a1)] [])) _
    refine XS.aloadN X0.here hx rfl (hb hby own_d_prog_5_method_7_0) rfl rfl ?_
    show Steps p.tables e below (s₁.setTop (mkF m 1 #[.val (.ref a1)] [(.ref a1)])) _
    refine st1 _ ?_
    show Steps p.tables e below (T1.setTop (mkF m 4 #[.val (.ref a1)] [(.int q)])) _
    refine XS.aloadN X1.here hx rfl (hb hby own_d_prog_5_method_7_4) rfl rfl ?_
    show Steps p.tables e below (T1.setTop (mkF m 5 #[.val (.ref a1)] [(.ref a1), (.int q)])) _
    refine st2 _ ?_
    show Steps p.tables e below (T2.setTop (mkF m 8 #[.val (.ref a1)] [(.ref b), (.int q)])) _
    refine X2.arraylength hx (by rw [e2]; exact Ar3.1) (State.isArrayOf_alike hZ.alike Ar3.2.1) (g := (mkF m 8 #[.val (.ref a1)] [(.ref b), (.int q)])) rfl rfl (hb hby own_d_prog_5_method_7_8) _ ?_
    rw [len_of Sz3 Nn3]
    by_cases hc9 : q = n
    · show Steps p.tables e below (T2.setTop (mkF m 9 #[.val (.ref a1)] [(.int n), (.int q)])) _
      refine XS.icmpNo X2.here hx rfl (hb hby own_d_prog_5_method_7_9) rfl (teq hc9).2 ?_
      show Steps p.tables e below (T2.setTop (mkF m 12 #[.val (.ref a1)] [])) _
      refine XS.iconst X2.here hx rfl (hb hby own_d_prog_5_method_7_12) ?_
      show Steps p.tables e below (T2.setTop (mkF m 13 #[.val (.ref a1)] [(.int (1 : Int32))])) _
      refine XS.goto X2.here hx rfl (pc0 := 13) (pc' := 17) rfl (hb hby own_d_prog_5_method_7_13) (by decide) (by decide) ?_
      have hv : r0 = (1 : Int32) := by rw [hr0]; exact if_pos hc9
      rw [hv] at hr
      show Steps p.tables e below (T2.setTop (mkF m 17 #[.val (.ref a1)] [(.int (1 : Int32))])) _
      exact retN X2 hx (t := .boolean) Bd.returns (by simp) (hb hby own_d_prog_5_method_7_17) hr
    · show Steps p.tables e below (T2.setTop (mkF m 9 #[.val (.ref a1)] [(.int n), (.int q)])) _
      refine XS.icmpYes X2.here hx rfl (pc0 := 9) (pc' := 16) rfl (hb hby own_d_prog_5_method_7_9) rfl (feq hc9).2 (by decide) (by decide) ?_
      show Steps p.tables e below (T2.setTop (mkF m 16 #[.val (.ref a1)] [])) _
      refine XS.iconst X2.here hx rfl (hb hby own_d_prog_5_method_7_16) ?_
      have hv : r0 = (0 : Int32) := by rw [hr0]; exact if_neg hc9
      rw [hv] at hr
      show Steps p.tables e below (T2.setTop (mkF m 17 #[.val (.ref a1)] [(.int (0 : Int32))])) _
      exact retN X2 hx (t := .boolean) Bd.returns (by simp) (hb hby own_d_prog_5_method_7_17) hr
  · show own_Q_atend Z a1 b k n q h0 n0 _ T2.heap _
    rw [e2]
    exact ⟨(by rw [hr0]), N0, rfl⟩
theorem own_d_prog_5_method_8_0 : decode prog_5_method_8_code 0 = .ok (.iload_n 1, 1) := by decide +kernel
theorem own_d_prog_5_method_8_1 : decode prog_5_method_8_code 1 = .ok (.ifCond .lt 17, 3) := by decide +kernel
theorem own_d_prog_5_method_8_4 : decode prog_5_method_8_code 4 = .ok (.iload_n 1, 1) := by decide +kernel
theorem own_d_prog_5_method_8_5 : decode prog_5_method_8_code 5 = .ok (.aload_n 0, 1) := by decide +kernel
theorem own_d_prog_5_method_8_6 : decode prog_5_method_8_code 6 = .ok (.getfield 7, 3) := by decide +kernel
theorem own_d_prog_5_method_8_9 : decode prog_5_method_8_code 9 = .ok (.arraylength, 1) := by decide +kernel
theorem own_d_prog_5_method_8_10 : decode prog_5_method_8_code 10 = .ok (.aload_n 0, 1) := by decide +kernel
theorem own_d_prog_5_method_8_11 : decode prog_5_method_8_code 11 = .ok (.getfield 17, 3) := by decide +kernel
theorem own_d_prog_5_method_8_14 : decode prog_5_method_8_code 14 = .ok (.isub, 1) := by decide +kernel
theorem own_d_prog_5_method_8_15 : decode prog_5_method_8_code 15 = .ok (.if_icmp .le 21, 3) := by decide +kernel
theorem own_d_prog_5_method_8_36 : decode prog_5_method_8_code 36 = .ok (.return_, 1) := by decide +kernel
theorem own_ef_claim (m : MethodId) (x0 : Addr) (x1 : Int32) : entryFrame m #[(.ref x0), (.int x1)] 2 = mkF m 0 #[.val (.ref x0), .val (.int x1)] [] := by first | (simp [entryFrame, mkF, argsToLocals, Value.category]; done) | rfl
def own_Q_claim (Z : State) (a1 : Addr) (p1 : Int32) (b : Addr) (k : ClassId) (n q : Int32) (h0 : Heap) (n0 : Nat) (v : Option Value) (h : Heap) (L : List Loc) : Prop := v = none ∧ Fr n0 L ∧ h = h0
set_option maxRecDepth 65536 in
set_option maxHeartbeats 40000000 in
theorem own_rm_claim (l : Launch) (Z : State) (a0 : Array Value) (hw : ∀ d ∈ tables_1, d.before a0 Z = true) (ws : List Jvm.Cond) (a1 : Addr) (p1 : Int32) (b : Addr) (k : ClassId) (n q : Int32) (h0 : Heap) (n0 : Nat) (Z0 : n0 ≤ h0.size) (O0 : own_Rd Z h0 a1 b k n q) (hlo : ¬ (p1 < (0 : Int32))) (hhi : ¬ ((n - q) < p1)) :
    MetFree l (⟨"com/example/accordant/accordant/FieldReader", "claim", "(I)V"⟩ : MethodName) (head1 (Jvm.Cond.code (⟨"com/example/accordant/accordant/FieldReader", "claim", "(I)V"⟩ : MethodName) prog_5_method_8_code 2 none :: ws) ({ frames := 0, cells := 0, slots := 0, locals := 0 } : Room)) (fun a U => a = #[(.ref a1), (.int p1)] ∧ Z.Warmed39 U.vm ∧ U.heap = h0) (fun _ _ _ _ _ => True) (fun _ U o U' => ∃ v L, o = .returned v ∧ own_Q_claim Z a1 p1 b k n q h0 n0 v U'.heap L ∧ FrameEnd U o U' L ({ frames := 0, cells := 0, slots := 0, locals := 0 } : Room).cells ({ frames := 0, cells := 0, slots := 0, locals := 0 } : Room).slots) := by
  refine MetFree.of_bodySF (plainFor_of_name own_pn0) hisR ?_
  intro p e s m args below meth c s₁ Bd hml0 hP hK
  obtain ⟨rfl, hZ, hh⟩ := hP
  have hx := Bd.exec
  have hby := Bd.bytes
  have hml : c.maxLocals = 2 := hml0
  have hown : s.vm.findClass "com/example/accordant/accordant/FieldReader" = some m.cls := findClass_of_methodNamed Bd.named
  have hnm := (name_of_methodNamed Bd.named Bd.method).1
  have X0 : Stand p l e ({ frames := 0, cells := 0, slots := 0, locals := 0 } : Room) s m #[(.ref a1), (.int p1)] below meth c s₁ [] 0 0 := Stand.of_body Bd
  have e0 : s₁.heap = h0 := by rw [← hh, Bd.state]; rfl
  have N0 := Fr.nil n0
  have pre0 : ∀ t, Steps p.tables e below (s₁.setTop (mkF m 0 #[.val (.ref a1), .val (.int p1)] [])) t → Steps p.tables e below (s₁.setTop (entryFrame m #[(.ref a1), (.int p1)] 2)) t := fun t k => castTop (own_ef_claim m a1 p1) k
  obtain ⟨E0, F0f, F0p, V0, ne0⟩ := O0
  obtain ⟨T1, X1, e1, st1⟩ := getF X0 hx hZ hown (host := "") (Or.inl (hw _ (List.mem_of_getElem? (i := 11) rfl))) Via.refl e0 F0f (g := (mkF m 6 #[.val (.ref a1), .val (.int p1)] [(.ref a1), (.int p1)])) rfl rfl (hb hby own_d_prog_5_method_8_6)
  have Vt2 := V0
  obtain ⟨cl2, Ar2, -, Sz2, Nn2, -, -⟩ := Vt2
  obtain ⟨T3, X3, e3, st3⟩ := getF X1 hx hZ hown (host := "") (Or.inl (hw _ (List.mem_of_getElem? (i := 18) rfl))) Via.refl e1 F0p (g := (mkF m 11 #[.val (.ref a1), .val (.int p1)] [(.ref a1), (.int n), (.int p1)])) rfl rfl (hb hby own_d_prog_5_method_8_11)
  obtain ⟨fs, hr, hrun, hended, hW, hsame⟩ := X3.leave (v := none) (fun _ => rfl)
  refine ⟨_, _, pre0 _ ?_, hrun, hended, _, _, rfl, ?_, ⟨_, rfl⟩, hW, hsame.mono (by decide) (by decide)⟩
  · show Steps p.tables e below (s₁.setTop (mkF m 0 #[.val (.ref a1), .val (.int p1)] [])) _
    refine XS.iloadN X0.here hx rfl (hb hby own_d_prog_5_method_8_0) rfl ?_
    show Steps p.tables e below (s₁.setTop (mkF m 1 #[.val (.ref a1), .val (.int p1)] [(.int p1)])) _
    refine XS.ifNo X0.here hx rfl (hb hby own_d_prog_5_method_8_1) rfl ((if0 _ _).trans (flt hlo).1) ?_
    show Steps p.tables e below (s₁.setTop (mkF m 4 #[.val (.ref a1), .val (.int p1)] [])) _
    refine XS.iloadN X0.here hx rfl (hb hby own_d_prog_5_method_8_4) rfl ?_
    show Steps p.tables e below (s₁.setTop (mkF m 5 #[.val (.ref a1), .val (.int p1)] [(.int p1)])) _
    refine XS.aloadN X0.here hx rfl (hb hby own_d_prog_5_method_8_5) rfl rfl ?_
    show Steps p.tables e below (s₁.setTop (mkF m 6 #[.val (.ref a1), .val (.int p1)] [(.ref a1), (.int p1)])) _
    refine st1 _ ?_
    show Steps p.tables e below (T1.setTop (mkF m 9 #[.val (.ref a1), .val (.int p1)] [(.ref b), (.int p1)])) _
    refine X1.arraylength hx (by rw [e1]; exact Ar2.1) (State.isArrayOf_alike hZ.alike Ar2.2.1) (g := (mkF m 9 #[.val (.ref a1), .val (.int p1)] [(.ref b), (.int p1)])) rfl rfl (hb hby own_d_prog_5_method_8_9) _ ?_
    rw [len_of Sz2 Nn2]
    show Steps p.tables e below (T1.setTop (mkF m 10 #[.val (.ref a1), .val (.int p1)] [(.int n), (.int p1)])) _
    refine XS.aloadN X1.here hx rfl (hb hby own_d_prog_5_method_8_10) rfl rfl ?_
    show Steps p.tables e below (T1.setTop (mkF m 11 #[.val (.ref a1), .val (.int p1)] [(.ref a1), (.int n), (.int p1)])) _
    refine st3 _ ?_
    show Steps p.tables e below (T3.setTop (mkF m 14 #[.val (.ref a1), .val (.int p1)] [(.int q), (.int n), (.int p1)])) _
    refine XS.isub X3.here hx rfl (hb hby own_d_prog_5_method_8_14) rfl ?_
    show Steps p.tables e below (T3.setTop (mkF m 15 #[.val (.ref a1), .val (.int p1)] [(.int (n - q)), (.int p1)])) _
    refine XS.icmpYes X3.here hx rfl (pc0 := 15) (pc' := 36) rfl (hb hby own_d_prog_5_method_8_15) rfl (flt hhi).2.2.2 (by decide) (by decide) ?_
    show Steps p.tables e below (T3.setTop (mkF m 36 #[.val (.ref a1), .val (.int p1)] [])) _
    exact X3.returnOut hx Bd.returns (hb hby own_d_prog_5_method_8_36) hr
  · show own_Q_claim Z a1 p1 b k n q h0 n0 _ T3.heap _
    rw [e3]
    exact ⟨rfl, N0, rfl⟩
theorem own_d_prog_5_method_4_0 : decode prog_5_method_4_code 0 = .ok (.aload_n 0, 1) := by decide +kernel
theorem own_d_prog_5_method_4_1 : decode prog_5_method_4_code 1 = .ok (.iconst 1, 1) := by decide +kernel
theorem own_d_prog_5_method_4_2 : decode prog_5_method_4_code 2 = .ok (.invokevirtual 13, 3) := by decide +kernel
theorem own_pd0 : parseMethodDescriptor "(I)V" = some ⟨[.int], none⟩ := by decide +kernel
theorem own_d_prog_5_method_4_5 : decode prog_5_method_4_code 5 = .ok (.aload_n 0, 1) := by decide +kernel
theorem own_d_prog_5_method_4_6 : decode prog_5_method_4_code 6 = .ok (.getfield 7, 3) := by decide +kernel
theorem own_d_prog_5_method_4_9 : decode prog_5_method_4_code 9 = .ok (.aload_n 0, 1) := by decide +kernel
theorem own_d_prog_5_method_4_10 : decode prog_5_method_4_code 10 = .ok (.dup, 1) := by decide +kernel
theorem own_d_prog_5_method_4_11 : decode prog_5_method_4_code 11 = .ok (.getfield 17, 3) := by decide +kernel
theorem own_d_prog_5_method_4_14 : decode prog_5_method_4_code 14 = .ok (.dup_x1, 1) := by decide +kernel
theorem own_d_prog_5_method_4_15 : decode prog_5_method_4_code 15 = .ok (.iconst 1, 1) := by decide +kernel
theorem own_d_prog_5_method_4_16 : decode prog_5_method_4_code 16 = .ok (.iadd, 1) := by decide +kernel
theorem own_d_prog_5_method_4_17 : decode prog_5_method_4_code 17 = .ok (.putfield 17, 3) := by decide +kernel
theorem own_d_prog_5_method_4_20 : decode prog_5_method_4_code 20 = .ok (.baload, 1) := by decide +kernel
theorem own_d_prog_5_method_4_21 : decode prog_5_method_4_code 21 = .ok (.istore_n 1, 1) := by decide +kernel
theorem own_d_prog_5_method_4_22 : decode prog_5_method_4_code 22 = .ok (.iload_n 1, 1) := by decide +kernel
theorem own_d_prog_5_method_4_23 : decode prog_5_method_4_code 23 = .ok (.ifCond .eq 22, 3) := by decide +kernel
theorem own_d_prog_5_method_4_45 : decode prog_5_method_4_code 45 = .ok (.iload_n 1, 1) := by decide +kernel
theorem own_d_prog_5_method_4_46 : decode prog_5_method_4_code 46 = .ok (.iconst 1, 1) := by decide +kernel
theorem own_d_prog_5_method_4_47 : decode prog_5_method_4_code 47 = .ok (.if_icmp .ne 7, 3) := by decide +kernel
theorem own_d_prog_5_method_4_54 : decode prog_5_method_4_code 54 = .ok (.iconst 0, 1) := by decide +kernel
theorem own_d_prog_5_method_4_55 : decode prog_5_method_4_code 55 = .ok (.ireturn, 1) := by decide +kernel
theorem own_ef_rbool (m : MethodId) (x0 : Addr) : entryFrame m #[(.ref x0)] 2 = mkF m 0 #[.val (.ref x0), .unset] [] := by first | (simp [entryFrame, mkF, argsToLocals, Value.category]; done) | rfl
def own_Q_rbool (Z : State) (a1 : Addr) (b : Addr) (k : ClassId) (n q : Int32) (h0 : Heap) (n0 : Nat) (v : Option Value) (h : Heap) (L : List Loc) : Prop := v = some (.int (0 : Int32)) ∧ Fr n0 L ∧ own_Rd Z h a1 b k n (q + (1 : Int32)) ∧ n0 ≤ h.size
set_option maxRecDepth 65536 in
set_option maxHeartbeats 40000000 in
theorem own_rm_rbool (l : Launch) (Z : State) (a0 : Array Value) (hw : ∀ d ∈ tables_1, d.before a0 Z = true) (ws : List Jvm.Cond) (a1 : Addr) (b : Addr) (k : ClassId) (n q : Int32) (h0 : Heap) (n0 : Nat) (Z0 : n0 ≤ h0.size) (O0 : own_Rd Z h0 a1 b k n q) (g0 : n0 ≤ a1) (hq : ¬ q < (0 : Int32) ∧ q < n ∧ ¬ (n - q) < (1 : Int32)) :
    MetFree l (⟨"com/example/accordant/accordant/FieldReader", "readBoolean", "()Z"⟩ : MethodName) (head1 (Jvm.Cond.code (⟨"com/example/accordant/accordant/FieldReader", "readBoolean", "()Z"⟩ : MethodName) prog_5_method_4_code 2 (some .boolean) :: ws) ({ frames := 1, cells := 0, slots := 0, locals := 13 } : Room)) (fun a U => a = #[(.ref a1)] ∧ Z.Warmed39 U.vm ∧ U.heap = h0) (fun _ _ _ _ _ => True) (fun _ U o U' => ∃ v L, o = .returned v ∧ own_Q_rbool Z a1 b k n q h0 n0 v U'.heap L ∧ FrameEnd U o U' L ({ frames := 1, cells := 0, slots := 0, locals := 13 } : Room).cells ({ frames := 1, cells := 0, slots := 0, locals := 13 } : Room).slots) := by
  refine MetFree.of_bodySF (plainFor_of_name own_pn0) hisR ?_
  intro p e s m args below meth c s₁ Bd hml0 hP hK
  obtain ⟨rfl, hZ, hh⟩ := hP
  have hx := Bd.exec
  have hby := Bd.bytes
  have hml : c.maxLocals = 2 := hml0
  have hown : s.vm.findClass "com/example/accordant/accordant/FieldReader" = some m.cls := findClass_of_methodNamed Bd.named
  have hnm := (name_of_methodNamed Bd.named Bd.method).1
  have X0 : Stand p l e ({ frames := 1, cells := 0, slots := 0, locals := 13 } : Room) s m #[(.ref a1)] below meth c s₁ [] 0 0 := Stand.of_body Bd
  have e0 : s₁.heap = h0 := by rw [← hh, Bd.state]; rfl
  have N0 := Fr.nil n0
  have pre0 : ∀ t, Steps p.tables e below (s₁.setTop (mkF m 0 #[.val (.ref a1), .unset] [])) t → Steps p.tables e below (s₁.setTop (entryFrame m #[(.ref a1)] 2)) t := fun t k => castTop (own_ef_rbool m a1) k
  obtain ⟨E0, F0f, F0p, V0, ne0⟩ := O0
  obtain ⟨cx1, qx1, qx1'⟩ := E0.cell
  obtain ⟨_, _, ⟨T1, L1, k1, n1⟩, -, X1, ⟨Lc1, hQ1, l1, y1, z1⟩, st1⟩ := X0.privateBack hx (y := (⟨"com/example/accordant/accordant/FieldReader", "claim", "(I)V"⟩ : MethodName)) hown (mvT hZ (hw _ (List.mem_of_getElem? (i := 25) rfl))) (mvT hZ (hw _ (List.mem_of_getElem? (i := 26) rfl))) (mvT hZ (own_selP (y := (⟨"com/example/accordant/accordant/FieldReader", "claim", "(I)V"⟩ : MethodName)) (hw _ (List.mem_of_getElem? (i := 3) rfl)) (hw _ (List.mem_of_getElem? (i := 27) rfl)) (hw _ (List.mem_of_getElem? (i := 26) rfl)) (by decide))) (Cond.privateMethod_at (mvP hZ (hw _ (List.mem_of_getElem? (i := 27) rfl)) (args := #[]))) (mvT hZ (hw _ (List.mem_of_getElem? (i := 28) rfl))) (by decide) (backOf (W := 0) (own_rm_claim l Z a0 hw [] a1 (1 : Int32) b k n q h0 n0 Z0 ⟨E0, F0f, F0p, V0, ne0⟩ (by decide) hq.2.2) hZ (hw _ (List.mem_of_getElem? (i := 28) rfl)) (hw _ (List.mem_of_getElem? (i := 4) rfl)) (by decide) (by decide)) (g := (mkF m 2 #[.val (.ref a1), .unset] [(.int (1 : Int32)), (.ref a1)])) rfl (by rw [hml]; rfl) (Steps.refl _) (a := a1) (by rw [e0]; exact qx1) qx1' (argsL := [(.int (1 : Int32))]) (rest := []) (lenOf own_pd0 rfl) rfl (by show 2 * 0 + _ ≤ _; exact Nat.le_of_eq rfl) (hb hby own_d_prog_5_method_4_2) (fun _ _ => ⟨rfl, e0, (by decide : 0 + 0 ≤ _), (by decide : 0 + 0 ≤ _)⟩)
  dsimp only [Pt.U, Pt.locs, Pt.cells, Pt.slots] at X1 l1 y1 z1 st1 hQ1
  subst l1 y1 z1
  obtain ⟨rfl, N1q, e1q⟩ := hQ1
  have N1 := Fr.app N0 N1q
  have E1_a1 : Exa Z T1.heap a1 "com/example/accordant/accordant/FieldReader" := by rw [e1q]; exact E0
  have Fs1_a1_fields : Fld Z T1.heap a1 "com/example/accordant/accordant/FieldReader" "fields" "[B" (.ref b) := by rw [e1q]; exact F0f
  have Fs1_a1_position : Fld Z T1.heap a1 "com/example/accordant/accordant/FieldReader" "position" "I" (.int q) := by rw [e1q]; exact F0p
  have Vs1_b : Arv Z T1.heap b k .byte n [] (defaultValue .byte) := by rw [e1q]; exact V0
  have Z1 : n0 ≤ T1.heap.size := by rw [e1q]; exact Z0
  obtain ⟨T2, X2, e2, st2⟩ := getF X1 hx hZ hown (host := "") (Or.inl (hw _ (List.mem_of_getElem? (i := 11) rfl))) Via.refl rfl Fs1_a1_fields (g := (mkF m 6 #[.val (.ref a1), .unset] [(.ref a1)])) rfl rfl (hb hby own_d_prog_5_method_4_6)
  obtain ⟨T3, X3, e3, st3⟩ := getF X2 hx hZ hown (host := "") (Or.inl (hw _ (List.mem_of_getElem? (i := 18) rfl))) Via.refl e2 Fs1_a1_position (g := (mkF m 11 #[.val (.ref a1), .unset] [(.ref a1), (.ref a1), (.ref b)])) rfl rfl (hb hby own_d_prog_5_method_4_11)
  obtain ⟨T4, h4, X4, e4, W4, st4⟩ := putF X3 hx hZ hown (host := "") (Or.inl (hw _ (List.mem_of_getElem? (i := 18) rfl))) Via.refl e3 Fs1_a1_position E1_a1 (Or.inl (hw _ (List.mem_of_getElem? (i := 19) rfl))) (hw _ (List.mem_of_getElem? (i := 3) rfl)) (ty := .int) (by decide) rfl rfl (g := (mkF m 17 #[.val (.ref a1), .unset] [(.int (q + (1 : Int32))), (.ref a1), (.int q), (.ref b)])) rfl rfl (hb hby own_d_prog_5_method_4_17)
  have E4_a1 := E1_a1.wr W4
  have Fw4_a1_fields := Fs1_a1_fields.other W4 (Or.inr (slot_ne (Or.inr (hw _ (List.mem_of_getElem? (i := 12) rfl))) (Or.inl (hw _ (List.mem_of_getElem? (i := 19) rfl))) (by decide) (t := (.array .byte)) (t' := .int) (by decide) (by decide)))
  have Fw4_a1_position := Fs1_a1_position.same W4
  have Vw4_b := Vs1_b.other W4 ne0
  have N4 := Fr.snoc X4 N1 g0
  have Z4 := Nat.le_trans Z1 (Keep.of_wr W4).1
  have Vt5 := Vw4_b
  obtain ⟨cl5, Ar5, -, Sz5, Nn5, Hh5, -⟩ := Vt5
  have hin5 : ¬ (q < 0 ∨ cl5.slots.size ≤ (q).toNatClampNeg) := inb_of Sz5 ⟨hq.1, hq.2.1⟩
  have hat5 : cl5.slots[(q).toNatClampNeg]? = some (.int (0 : Int32)) := Hh5.at hin5 rfl
  obtain ⟨fs, hr, hrun, hended, hW, hsame⟩ := X4.leave (v := some (.int (0 : Int32))) (fun h => by rw [Bd.returns] at h; cases h)
  refine ⟨_, _, pre0 _ ?_, hrun, hended, _, _, rfl, ?_, ⟨_, rfl⟩, hW, hsame.mono (by decide) (by decide)⟩
  · show Steps p.tables e below (s₁.setTop (mkF m 0 #[.val (.ref a1), .unset] [])) _
    refine XS.aloadN X0.here hx rfl (hb hby own_d_prog_5_method_4_0) rfl rfl ?_
    show Steps p.tables e below (s₁.setTop (mkF m 1 #[.val (.ref a1), .unset] [(.ref a1)])) _
    refine XS.iconst X0.here hx rfl (hb hby own_d_prog_5_method_4_1) ?_
    show Steps p.tables e below (s₁.setTop (mkF m 2 #[.val (.ref a1), .unset] [(.int (1 : Int32)), (.ref a1)])) _
    refine st1.trans ?_
    show Steps p.tables e below (T1.setTop (mkF m 5 #[.val (.ref a1), .unset] [])) _
    refine XS.aloadN X1.here hx rfl (hb hby own_d_prog_5_method_4_5) rfl rfl ?_
    show Steps p.tables e below (T1.setTop (mkF m 6 #[.val (.ref a1), .unset] [(.ref a1)])) _
    refine st2 _ ?_
    show Steps p.tables e below (T2.setTop (mkF m 9 #[.val (.ref a1), .unset] [(.ref b)])) _
    refine XS.aloadN X2.here hx rfl (hb hby own_d_prog_5_method_4_9) rfl rfl ?_
    show Steps p.tables e below (T2.setTop (mkF m 10 #[.val (.ref a1), .unset] [(.ref a1), (.ref b)])) _
    refine XS.dup X2.here hx rfl (hb hby own_d_prog_5_method_4_10) rfl rfl ?_
    show Steps p.tables e below (T2.setTop (mkF m 11 #[.val (.ref a1), .unset] [(.ref a1), (.ref a1), (.ref b)])) _
    refine st3 _ ?_
    show Steps p.tables e below (T3.setTop (mkF m 14 #[.val (.ref a1), .unset] [(.int q), (.ref a1), (.ref b)])) _
    refine XS.dupX1 X3.here hx rfl (hb hby own_d_prog_5_method_4_14) rfl rfl rfl ?_
    show Steps p.tables e below (T3.setTop (mkF m 15 #[.val (.ref a1), .unset] [(.int q), (.ref a1), (.int q), (.ref b)])) _
    refine XS.iconst X3.here hx rfl (hb hby own_d_prog_5_method_4_15) ?_
    show Steps p.tables e below (T3.setTop (mkF m 16 #[.val (.ref a1), .unset] [(.int (1 : Int32)), (.int q), (.ref a1), (.int q), (.ref b)])) _
    refine XS.iadd X3.here hx rfl (hb hby own_d_prog_5_method_4_16) rfl ?_
    show Steps p.tables e below (T3.setTop (mkF m 17 #[.val (.ref a1), .unset] [(.int (q + (1 : Int32))), (.ref a1), (.int q), (.ref b)])) _
    refine st4 _ ?_
    show Steps p.tables e below (T4.setTop (mkF m 20 #[.val (.ref a1), .unset] [(.int q), (.ref b)])) _
    refine X4.baloadBytes hx (j := q) (v := (.int (0 : Int32))) (by rw [e4]; exact Ar5.1) (State.isArrayOf_alike hZ.alike Ar5.2.1) Ar5.2.2 hin5 hat5 (g := (mkF m 20 #[.val (.ref a1), .unset] [(.int q), (.ref b)])) rfl rfl (hb hby own_d_prog_5_method_4_20) _ ?_
    show Steps p.tables e below (T4.setTop (mkF m 21 #[.val (.ref a1), .unset] [(.int (0 : Int32))])) _
    refine XS.istoreN X4.here hx rfl (hb hby own_d_prog_5_method_4_21) rfl (l' := #[.val (.ref a1), .val (.int (0 : Int32))]) rfl ?_
    show Steps p.tables e below (T4.setTop (mkF m 22 #[.val (.ref a1), .val (.int (0 : Int32))] [])) _
    refine XS.iloadN X4.here hx rfl (hb hby own_d_prog_5_method_4_22) rfl ?_
    show Steps p.tables e below (T4.setTop (mkF m 23 #[.val (.ref a1), .val (.int (0 : Int32))] [(.int (0 : Int32))])) _
    refine XS.ifYes X4.here hx rfl (pc0 := 23) (pc' := 45) rfl (hb hby own_d_prog_5_method_4_23) rfl ((if0 _ _).trans (teq rfl).1) (by decide) (by decide) ?_
    show Steps p.tables e below (T4.setTop (mkF m 45 #[.val (.ref a1), .val (.int (0 : Int32))] [])) _
    refine XS.iloadN X4.here hx rfl (hb hby own_d_prog_5_method_4_45) rfl ?_
    show Steps p.tables e below (T4.setTop (mkF m 46 #[.val (.ref a1), .val (.int (0 : Int32))] [(.int (0 : Int32))])) _
    refine XS.iconst X4.here hx rfl (hb hby own_d_prog_5_method_4_46) ?_
    show Steps p.tables e below (T4.setTop (mkF m 47 #[.val (.ref a1), .val (.int (0 : Int32))] [(.int (1 : Int32)), (.int (0 : Int32))])) _
    refine XS.icmpYes X4.here hx rfl (pc0 := 47) (pc' := 54) rfl (hb hby own_d_prog_5_method_4_47) rfl (feq (by decide)).2 (by decide) (by decide) ?_
    show Steps p.tables e below (T4.setTop (mkF m 54 #[.val (.ref a1), .val (.int (0 : Int32))] [])) _
    refine XS.iconst X4.here hx rfl (hb hby own_d_prog_5_method_4_54) ?_
    show Steps p.tables e below (T4.setTop (mkF m 55 #[.val (.ref a1), .val (.int (0 : Int32))] [(.int (0 : Int32))])) _
    exact retN X4 hx (t := .boolean) Bd.returns (by simp) (hb hby own_d_prog_5_method_4_55) hr
  · show own_Q_rbool Z a1 b k n q h0 n0 _ T4.heap _
    rw [e4]
    exact ⟨rfl, N4, ⟨E4_a1, Fw4_a1_fields, Fw4_a1_position, Vw4_b, ne0⟩, Z4⟩
theorem own_d_prog_5_method_2_0 : decode prog_5_method_2_code 0 = .ok (.aload_n 0, 1) := by decide +kernel
theorem own_d_prog_5_method_2_1 : decode prog_5_method_2_code 1 = .ok (.iconst 4, 1) := by decide +kernel
theorem own_d_prog_5_method_2_2 : decode prog_5_method_2_code 2 = .ok (.invokevirtual 13, 3) := by decide +kernel
theorem own_d_prog_5_method_2_5 : decode prog_5_method_2_code 5 = .ok (.aload_n 0, 1) := by decide +kernel
theorem own_d_prog_5_method_2_6 : decode prog_5_method_2_code 6 = .ok (.getfield 7, 3) := by decide +kernel
theorem own_d_prog_5_method_2_9 : decode prog_5_method_2_code 9 = .ok (.aload_n 0, 1) := by decide +kernel
theorem own_d_prog_5_method_2_10 : decode prog_5_method_2_code 10 = .ok (.getfield 17, 3) := by decide +kernel
theorem own_d_prog_5_method_2_13 : decode prog_5_method_2_code 13 = .ok (.baload, 1) := by decide +kernel
theorem own_d_prog_5_method_2_14 : decode prog_5_method_2_code 14 = .ok (.sipush 255, 3) := by decide +kernel
theorem own_d_prog_5_method_2_17 : decode prog_5_method_2_code 17 = .ok (.iand, 1) := by decide +kernel
theorem own_d_prog_5_method_2_18 : decode prog_5_method_2_code 18 = .ok (.bipush 24, 2) := by decide +kernel
theorem own_d_prog_5_method_2_20 : decode prog_5_method_2_code 20 = .ok (.ishl, 1) := by decide +kernel
theorem own_d_prog_5_method_2_21 : decode prog_5_method_2_code 21 = .ok (.aload_n 0, 1) := by decide +kernel
theorem own_d_prog_5_method_2_22 : decode prog_5_method_2_code 22 = .ok (.getfield 7, 3) := by decide +kernel
theorem own_d_prog_5_method_2_25 : decode prog_5_method_2_code 25 = .ok (.aload_n 0, 1) := by decide +kernel
theorem own_d_prog_5_method_2_26 : decode prog_5_method_2_code 26 = .ok (.getfield 17, 3) := by decide +kernel
theorem own_d_prog_5_method_2_29 : decode prog_5_method_2_code 29 = .ok (.iconst 1, 1) := by decide +kernel
theorem own_d_prog_5_method_2_30 : decode prog_5_method_2_code 30 = .ok (.iadd, 1) := by decide +kernel
theorem own_d_prog_5_method_2_31 : decode prog_5_method_2_code 31 = .ok (.baload, 1) := by decide +kernel
theorem own_d_prog_5_method_2_32 : decode prog_5_method_2_code 32 = .ok (.sipush 255, 3) := by decide +kernel
theorem own_d_prog_5_method_2_35 : decode prog_5_method_2_code 35 = .ok (.iand, 1) := by decide +kernel
theorem own_d_prog_5_method_2_36 : decode prog_5_method_2_code 36 = .ok (.bipush 16, 2) := by decide +kernel
theorem own_d_prog_5_method_2_38 : decode prog_5_method_2_code 38 = .ok (.ishl, 1) := by decide +kernel
theorem own_d_prog_5_method_2_39 : decode prog_5_method_2_code 39 = .ok (.ior, 1) := by decide +kernel
theorem own_d_prog_5_method_2_40 : decode prog_5_method_2_code 40 = .ok (.aload_n 0, 1) := by decide +kernel
theorem own_d_prog_5_method_2_41 : decode prog_5_method_2_code 41 = .ok (.getfield 7, 3) := by decide +kernel
theorem own_d_prog_5_method_2_44 : decode prog_5_method_2_code 44 = .ok (.aload_n 0, 1) := by decide +kernel
theorem own_d_prog_5_method_2_45 : decode prog_5_method_2_code 45 = .ok (.getfield 17, 3) := by decide +kernel
theorem own_d_prog_5_method_2_48 : decode prog_5_method_2_code 48 = .ok (.iconst 2, 1) := by decide +kernel
theorem own_d_prog_5_method_2_49 : decode prog_5_method_2_code 49 = .ok (.iadd, 1) := by decide +kernel
theorem own_d_prog_5_method_2_50 : decode prog_5_method_2_code 50 = .ok (.baload, 1) := by decide +kernel
theorem own_d_prog_5_method_2_51 : decode prog_5_method_2_code 51 = .ok (.sipush 255, 3) := by decide +kernel
theorem own_d_prog_5_method_2_54 : decode prog_5_method_2_code 54 = .ok (.iand, 1) := by decide +kernel
theorem own_d_prog_5_method_2_55 : decode prog_5_method_2_code 55 = .ok (.bipush 8, 2) := by decide +kernel
theorem own_d_prog_5_method_2_57 : decode prog_5_method_2_code 57 = .ok (.ishl, 1) := by decide +kernel
theorem own_d_prog_5_method_2_58 : decode prog_5_method_2_code 58 = .ok (.ior, 1) := by decide +kernel
theorem own_d_prog_5_method_2_59 : decode prog_5_method_2_code 59 = .ok (.aload_n 0, 1) := by decide +kernel
theorem own_d_prog_5_method_2_60 : decode prog_5_method_2_code 60 = .ok (.getfield 7, 3) := by decide +kernel
theorem own_d_prog_5_method_2_63 : decode prog_5_method_2_code 63 = .ok (.aload_n 0, 1) := by decide +kernel
theorem own_d_prog_5_method_2_64 : decode prog_5_method_2_code 64 = .ok (.getfield 17, 3) := by decide +kernel
theorem own_d_prog_5_method_2_67 : decode prog_5_method_2_code 67 = .ok (.iconst 3, 1) := by decide +kernel
theorem own_d_prog_5_method_2_68 : decode prog_5_method_2_code 68 = .ok (.iadd, 1) := by decide +kernel
theorem own_d_prog_5_method_2_69 : decode prog_5_method_2_code 69 = .ok (.baload, 1) := by decide +kernel
theorem own_d_prog_5_method_2_70 : decode prog_5_method_2_code 70 = .ok (.sipush 255, 3) := by decide +kernel
theorem own_d_prog_5_method_2_73 : decode prog_5_method_2_code 73 = .ok (.iand, 1) := by decide +kernel
theorem own_d_prog_5_method_2_74 : decode prog_5_method_2_code 74 = .ok (.ior, 1) := by decide +kernel
theorem own_d_prog_5_method_2_75 : decode prog_5_method_2_code 75 = .ok (.istore_n 1, 1) := by decide +kernel
theorem own_d_prog_5_method_2_76 : decode prog_5_method_2_code 76 = .ok (.aload_n 0, 1) := by decide +kernel
theorem own_d_prog_5_method_2_77 : decode prog_5_method_2_code 77 = .ok (.dup, 1) := by decide +kernel
theorem own_d_prog_5_method_2_78 : decode prog_5_method_2_code 78 = .ok (.getfield 17, 3) := by decide +kernel
theorem own_d_prog_5_method_2_81 : decode prog_5_method_2_code 81 = .ok (.iconst 4, 1) := by decide +kernel
theorem own_d_prog_5_method_2_82 : decode prog_5_method_2_code 82 = .ok (.iadd, 1) := by decide +kernel
theorem own_d_prog_5_method_2_83 : decode prog_5_method_2_code 83 = .ok (.putfield 17, 3) := by decide +kernel
theorem own_d_prog_5_method_2_86 : decode prog_5_method_2_code 86 = .ok (.iload_n 1, 1) := by decide +kernel
theorem own_d_prog_5_method_2_87 : decode prog_5_method_2_code 87 = .ok (.ireturn, 1) := by decide +kernel
theorem own_ef_rint (m : MethodId) (x0 : Addr) : entryFrame m #[(.ref x0)] 2 = mkF m 0 #[.val (.ref x0), .unset] [] := by first | (simp [entryFrame, mkF, argsToLocals, Value.category]; done) | rfl
def own_Q_rint (Z : State) (a1 : Addr) (b : Addr) (k : ClassId) (n : Int32) (h0 : Heap) (n0 : Nat) (v : Option Value) (h : Heap) (L : List Loc) : Prop := v = some (.int ((((((0 : Int32) &&& (255 : Int32)) <<< ((24 : Int32) &&& 31)) ||| (((0 : Int32) &&& (255 : Int32)) <<< ((16 : Int32) &&& 31))) ||| (((0 : Int32) &&& (255 : Int32)) <<< ((8 : Int32) &&& 31))) ||| ((0 : Int32) &&& (255 : Int32)))) ∧ Fr n0 L ∧ own_Rd Z h a1 b k n (4 : Int32) ∧ n0 ≤ h.size
set_option maxRecDepth 65536 in
set_option maxHeartbeats 40000000 in
theorem own_rm_rint (l : Launch) (Z : State) (a0 : Array Value) (hw : ∀ d ∈ tables_1, d.before a0 Z = true) (ws : List Jvm.Cond) (a1 : Addr) (b : Addr) (k : ClassId) (n : Int32) (h0 : Heap) (n0 : Nat) (Z0 : n0 ≤ h0.size) (O0 : own_Rd Z h0 a1 b k n (0 : Int32)) (g0 : n0 ≤ a1) (hfo : ((0 : Int32) < n ∧ ((0 : Int32) + (1 : Int32)) < n ∧ ((0 : Int32) + (2 : Int32)) < n ∧ ((0 : Int32) + (3 : Int32)) < n) ∧ ¬ ((n - (0 : Int32)) < (4 : Int32)) ∧ 4 ≤ n.toInt) :
    MetFree l (⟨"com/example/accordant/accordant/FieldReader", "readInt", "()I"⟩ : MethodName) (head1 (Jvm.Cond.code (⟨"com/example/accordant/accordant/FieldReader", "readInt", "()I"⟩ : MethodName) prog_5_method_2_code 2 (some .int) :: ws) ({ frames := 1, cells := 0, slots := 0, locals := 13 } : Room)) (fun a U => a = #[(.ref a1)] ∧ Z.Warmed39 U.vm ∧ U.heap = h0) (fun _ _ _ _ _ => True) (fun _ U o U' => ∃ v L, o = .returned v ∧ own_Q_rint Z a1 b k n h0 n0 v U'.heap L ∧ FrameEnd U o U' L ({ frames := 1, cells := 0, slots := 0, locals := 13 } : Room).cells ({ frames := 1, cells := 0, slots := 0, locals := 13 } : Room).slots) := by
  refine MetFree.of_bodySF (plainFor_of_name own_pn0) hisR ?_
  intro p e s m args below meth c s₁ Bd hml0 hP hK
  obtain ⟨rfl, hZ, hh⟩ := hP
  have hx := Bd.exec
  have hby := Bd.bytes
  have hml : c.maxLocals = 2 := hml0
  have hown : s.vm.findClass "com/example/accordant/accordant/FieldReader" = some m.cls := findClass_of_methodNamed Bd.named
  have hnm := (name_of_methodNamed Bd.named Bd.method).1
  have X0 : Stand p l e ({ frames := 1, cells := 0, slots := 0, locals := 13 } : Room) s m #[(.ref a1)] below meth c s₁ [] 0 0 := Stand.of_body Bd
  have e0 : s₁.heap = h0 := by rw [← hh, Bd.state]; rfl
  have N0 := Fr.nil n0
  have pre0 : ∀ t, Steps p.tables e below (s₁.setTop (mkF m 0 #[.val (.ref a1), .unset] [])) t → Steps p.tables e below (s₁.setTop (entryFrame m #[(.ref a1)] 2)) t := fun t k => castTop (own_ef_rint m a1) k
  obtain ⟨E0, F0f, F0p, V0, ne0⟩ := O0
  obtain ⟨cx1, qx1, qx1'⟩ := E0.cell
  obtain ⟨_, _, ⟨T1, L1, k1, n1⟩, -, X1, ⟨Lc1, hQ1, l1, y1, z1⟩, st1⟩ := X0.privateBack hx (y := (⟨"com/example/accordant/accordant/FieldReader", "claim", "(I)V"⟩ : MethodName)) hown (mvT hZ (hw _ (List.mem_of_getElem? (i := 25) rfl))) (mvT hZ (hw _ (List.mem_of_getElem? (i := 26) rfl))) (mvT hZ (own_selP (y := (⟨"com/example/accordant/accordant/FieldReader", "claim", "(I)V"⟩ : MethodName)) (hw _ (List.mem_of_getElem? (i := 3) rfl)) (hw _ (List.mem_of_getElem? (i := 27) rfl)) (hw _ (List.mem_of_getElem? (i := 26) rfl)) (by decide))) (Cond.privateMethod_at (mvP hZ (hw _ (List.mem_of_getElem? (i := 27) rfl)) (args := #[]))) (mvT hZ (hw _ (List.mem_of_getElem? (i := 28) rfl))) (by decide) (backOf (W := 0) (own_rm_claim l Z a0 hw [] a1 (4 : Int32) b k n (0 : Int32) h0 n0 Z0 ⟨E0, F0f, F0p, V0, ne0⟩ (by decide) hfo.2.1) hZ (hw _ (List.mem_of_getElem? (i := 28) rfl)) (hw _ (List.mem_of_getElem? (i := 4) rfl)) (by decide) (by decide)) (g := (mkF m 2 #[.val (.ref a1), .unset] [(.int (4 : Int32)), (.ref a1)])) rfl (by rw [hml]; rfl) (Steps.refl _) (a := a1) (by rw [e0]; exact qx1) qx1' (argsL := [(.int (4 : Int32))]) (rest := []) (lenOf own_pd0 rfl) rfl (by show 2 * 0 + _ ≤ _; exact Nat.le_of_eq rfl) (hb hby own_d_prog_5_method_2_2) (fun _ _ => ⟨rfl, e0, (by decide : 0 + 0 ≤ _), (by decide : 0 + 0 ≤ _)⟩)
  dsimp only [Pt.U, Pt.locs, Pt.cells, Pt.slots] at X1 l1 y1 z1 st1 hQ1
  subst l1 y1 z1
  obtain ⟨rfl, N1q, e1q⟩ := hQ1
  have N1 := Fr.app N0 N1q
  have E1_a1 : Exa Z T1.heap a1 "com/example/accordant/accordant/FieldReader" := by rw [e1q]; exact E0
  have Fs1_a1_fields : Fld Z T1.heap a1 "com/example/accordant/accordant/FieldReader" "fields" "[B" (.ref b) := by rw [e1q]; exact F0f
  have Fs1_a1_position : Fld Z T1.heap a1 "com/example/accordant/accordant/FieldReader" "position" "I" (.int (0 : Int32)) := by rw [e1q]; exact F0p
  have Vs1_b : Arv Z T1.heap b k .byte n [] (defaultValue .byte) := by rw [e1q]; exact V0
  have Z1 : n0 ≤ T1.heap.size := by rw [e1q]; exact Z0
  obtain ⟨T2, X2, e2, st2⟩ := getF X1 hx hZ hown (host := "") (Or.inl (hw _ (List.mem_of_getElem? (i := 11) rfl))) Via.refl rfl Fs1_a1_fields (g := (mkF m 6 #[.val (.ref a1), .unset] [(.ref a1)])) rfl rfl (hb hby own_d_prog_5_method_2_6)
  obtain ⟨T3, X3, e3, st3⟩ := getF X2 hx hZ hown (host := "") (Or.inl (hw _ (List.mem_of_getElem? (i := 18) rfl))) Via.refl e2 Fs1_a1_position (g := (mkF m 10 #[.val (.ref a1), .unset] [(.ref a1), (.ref b)])) rfl rfl (hb hby own_d_prog_5_method_2_10)
  have Vt4 := Vs1_b
  obtain ⟨cl4, Ar4, -, Sz4, Nn4, Hh4, -⟩ := Vt4
  have hin4 : ¬ ((0 : Int32) < 0 ∨ cl4.slots.size ≤ ((0 : Int32)).toNatClampNeg) := inb_of Sz4 ⟨by decide, hfo.1.1⟩
  have hat4 : cl4.slots[((0 : Int32)).toNatClampNeg]? = some (.int (0 : Int32)) := Hh4.at hin4 rfl
  obtain ⟨T5, X5, e5, st5⟩ := getF X3 hx hZ hown (host := "") (Or.inl (hw _ (List.mem_of_getElem? (i := 11) rfl))) Via.refl e3 Fs1_a1_fields (g := (mkF m 22 #[.val (.ref a1), .unset] [(.ref a1), (.int (((0 : Int32) &&& (255 : Int32)) <<< ((24 : Int32) &&& 31)))])) rfl rfl (hb hby own_d_prog_5_method_2_22)
  obtain ⟨T6, X6, e6, st6⟩ := getF X5 hx hZ hown (host := "") (Or.inl (hw _ (List.mem_of_getElem? (i := 18) rfl))) Via.refl e5 Fs1_a1_position (g := (mkF m 26 #[.val (.ref a1), .unset] [(.ref a1), (.ref b), (.int (((0 : Int32) &&& (255 : Int32)) <<< ((24 : Int32) &&& 31)))])) rfl rfl (hb hby own_d_prog_5_method_2_26)
  have Vt7 := Vs1_b
  obtain ⟨cl7, Ar7, -, Sz7, Nn7, Hh7, -⟩ := Vt7
  have hin7 : ¬ (((0 : Int32) + (1 : Int32)) < 0 ∨ cl7.slots.size ≤ (((0 : Int32) + (1 : Int32))).toNatClampNeg) := inb_of Sz7 ⟨by decide, hfo.1.2.1⟩
  have hat7 : cl7.slots[(((0 : Int32) + (1 : Int32))).toNatClampNeg]? = some (.int (0 : Int32)) := Hh7.at hin7 rfl
  obtain ⟨T8, X8, e8, st8⟩ := getF X6 hx hZ hown (host := "") (Or.inl (hw _ (List.mem_of_getElem? (i := 11) rfl))) Via.refl e6 Fs1_a1_fields (g := (mkF m 41 #[.val (.ref a1), .unset] [(.ref a1), (.int ((((0 : Int32) &&& (255 : Int32)) <<< ((24 : Int32) &&& 31)) ||| (((0 : Int32) &&& (255 : Int32)) <<< ((16 : Int32) &&& 31))))])) rfl rfl (hb hby own_d_prog_5_method_2_41)
  obtain ⟨T9, X9, e9, st9⟩ := getF X8 hx hZ hown (host := "") (Or.inl (hw _ (List.mem_of_getElem? (i := 18) rfl))) Via.refl e8 Fs1_a1_position (g := (mkF m 45 #[.val (.ref a1), .unset] [(.ref a1), (.ref b), (.int ((((0 : Int32) &&& (255 : Int32)) <<< ((24 : Int32) &&& 31)) ||| (((0 : Int32) &&& (255 : Int32)) <<< ((16 : Int32) &&& 31))))])) rfl rfl (hb hby own_d_prog_5_method_2_45)
  have Vt10 := Vs1_b
  obtain ⟨cl10, Ar10, -, Sz10, Nn10, Hh10, -⟩ := Vt10
  have hin10 : ¬ (((0 : Int32) + (2 : Int32)) < 0 ∨ cl10.slots.size ≤ (((0 : Int32) + (2 : Int32))).toNatClampNeg) := inb_of Sz10 ⟨by decide, hfo.1.2.2.1⟩
  have hat10 : cl10.slots[(((0 : Int32) + (2 : Int32))).toNatClampNeg]? = some (.int (0 : Int32)) := Hh10.at hin10 rfl
  obtain ⟨T11, X11, e11, st11⟩ := getF X9 hx hZ hown (host := "") (Or.inl (hw _ (List.mem_of_getElem? (i := 11) rfl))) Via.refl e9 Fs1_a1_fields (g := (mkF m 60 #[.val (.ref a1), .unset] [(.ref a1), (.int (((((0 : Int32) &&& (255 : Int32)) <<< ((24 : Int32) &&& 31)) ||| (((0 : Int32) &&& (255 : Int32)) <<< ((16 : Int32) &&& 31))) ||| (((0 : Int32) &&& (255 : Int32)) <<< ((8 : Int32) &&& 31))))])) rfl rfl (hb hby own_d_prog_5_method_2_60)
  obtain ⟨T12, X12, e12, st12⟩ := getF X11 hx hZ hown (host := "") (Or.inl (hw _ (List.mem_of_getElem? (i := 18) rfl))) Via.refl e11 Fs1_a1_position (g := (mkF m 64 #[.val (.ref a1), .unset] [(.ref a1), (.ref b), (.int (((((0 : Int32) &&& (255 : Int32)) <<< ((24 : Int32) &&& 31)) ||| (((0 : Int32) &&& (255 : Int32)) <<< ((16 : Int32) &&& 31))) ||| (((0 : Int32) &&& (255 : Int32)) <<< ((8 : Int32) &&& 31))))])) rfl rfl (hb hby own_d_prog_5_method_2_64)
  have Vt13 := Vs1_b
  obtain ⟨cl13, Ar13, -, Sz13, Nn13, Hh13, -⟩ := Vt13
  have hin13 : ¬ (((0 : Int32) + (3 : Int32)) < 0 ∨ cl13.slots.size ≤ (((0 : Int32) + (3 : Int32))).toNatClampNeg) := inb_of Sz13 ⟨by decide, hfo.1.2.2.2⟩
  have hat13 : cl13.slots[(((0 : Int32) + (3 : Int32))).toNatClampNeg]? = some (.int (0 : Int32)) := Hh13.at hin13 rfl
  obtain ⟨T14, X14, e14, st14⟩ := getF X12 hx hZ hown (host := "") (Or.inl (hw _ (List.mem_of_getElem? (i := 18) rfl))) Via.refl e12 Fs1_a1_position (g := (mkF m 78 #[.val (.ref a1), .val (.int ((((((0 : Int32) &&& (255 : Int32)) <<< ((24 : Int32) &&& 31)) ||| (((0 : Int32) &&& (255 : Int32)) <<< ((16 : Int32) &&& 31))) ||| (((0 : Int32) &&& (255 : Int32)) <<< ((8 : Int32) &&& 31))) ||| ((0 : Int32) &&& (255 : Int32))))] [(.ref a1), (.ref a1)])) rfl rfl (hb hby own_d_prog_5_method_2_78)
  obtain ⟨T15, h15, X15, e15, W15, st15⟩ := putF X14 hx hZ hown (host := "") (Or.inl (hw _ (List.mem_of_getElem? (i := 18) rfl))) Via.refl e14 Fs1_a1_position E1_a1 (Or.inl (hw _ (List.mem_of_getElem? (i := 19) rfl))) (hw _ (List.mem_of_getElem? (i := 3) rfl)) (ty := .int) (by decide) rfl rfl (g := (mkF m 83 #[.val (.ref a1), .val (.int ((((((0 : Int32) &&& (255 : Int32)) <<< ((24 : Int32) &&& 31)) ||| (((0 : Int32) &&& (255 : Int32)) <<< ((16 : Int32) &&& 31))) ||| (((0 : Int32) &&& (255 : Int32)) <<< ((8 : Int32) &&& 31))) ||| ((0 : Int32) &&& (255 : Int32))))] [(.int ((0 : Int32) + (4 : Int32))), (.ref a1)])) rfl rfl (hb hby own_d_prog_5_method_2_83)
  have E15_a1 := E1_a1.wr W15
  have Fw15_a1_fields := Fs1_a1_fields.other W15 (Or.inr (slot_ne (Or.inr (hw _ (List.mem_of_getElem? (i := 12) rfl))) (Or.inl (hw _ (List.mem_of_getElem? (i := 19) rfl))) (by decide) (t := (.array .byte)) (t' := .int) (by decide) (by decide)))
  have Fw15_a1_position := Fs1_a1_position.same W15
  have Vw15_b := Vs1_b.other W15 ne0
  have N15 := Fr.snoc X15 N1 g0
  have Z15 := Nat.le_trans Z1 (Keep.of_wr W15).1
  obtain ⟨fs, hr, hrun, hended, hW, hsame⟩ := X15.leave (v := some (.int ((((((0 : Int32) &&& (255 : Int32)) <<< ((24 : Int32) &&& 31)) ||| (((0 : Int32) &&& (255 : Int32)) <<< ((16 : Int32) &&& 31))) ||| (((0 : Int32) &&& (255 : Int32)) <<< ((8 : Int32) &&& 31))) ||| ((0 : Int32) &&& (255 : Int32))))) (fun h => by rw [Bd.returns] at h; cases h)
  refine ⟨_, _, pre0 _ ?_, hrun, hended, _, _, rfl, ?_, ⟨_, rfl⟩, hW, hsame.mono (by decide) (by decide)⟩
  · show Steps p.tables e below (s₁.setTop (mkF m 0 #[.val (.ref a1), .unset] [])) _
    refine XS.aloadN X0.here hx rfl (hb hby own_d_prog_5_method_2_0) rfl rfl ?_
    show Steps p.tables e below (s₁.setTop (mkF m 1 #[.val (.ref a1), .unset] [(.ref a1)])) _
    refine XS.iconst X0.here hx rfl (hb hby own_d_prog_5_method_2_1) ?_
    show Steps p.tables e below (s₁.setTop (mkF m 2 #[.val (.ref a1), .unset] [(.int (4 : Int32)), (.ref a1)])) _
    refine st1.trans ?_
    show Steps p.tables e below (T1.setTop (mkF m 5 #[.val (.ref a1), .unset] [])) _
    refine XS.aloadN X1.here hx rfl (hb hby own_d_prog_5_method_2_5) rfl rfl ?_
    show Steps p.tables e below (T1.setTop (mkF m 6 #[.val (.ref a1), .unset] [(.ref a1)])) _
    refine st2 _ ?_
    show Steps p.tables e below (T2.setTop (mkF m 9 #[.val (.ref a1), .unset] [(.ref b)])) _
    refine XS.aloadN X2.here hx rfl (hb hby own_d_prog_5_method_2_9) rfl rfl ?_
    show Steps p.tables e below (T2.setTop (mkF m 10 #[.val (.ref a1), .unset] [(.ref a1), (.ref b)])) _
    refine st3 _ ?_
    show Steps p.tables e below (T3.setTop (mkF m 13 #[.val (.ref a1), .unset] [(.int (0 : Int32)), (.ref b)])) _
    refine X3.baloadBytes hx (j := (0 : Int32)) (v := (.int (0 : Int32))) (by rw [e3]; exact Ar4.1) (State.isArrayOf_alike hZ.alike Ar4.2.1) Ar4.2.2 hin4 hat4 (g := (mkF m 13 #[.val (.ref a1), .unset] [(.int (0 : Int32)), (.ref b)])) rfl rfl (hb hby own_d_prog_5_method_2_13) _ ?_
    show Steps p.tables e below (T3.setTop (mkF m 14 #[.val (.ref a1), .unset] [(.int (0 : Int32))])) _
    refine XS.sipush X3.here hx rfl (hb hby own_d_prog_5_method_2_14) ?_
    show Steps p.tables e below (T3.setTop (mkF m 17 #[.val (.ref a1), .unset] [(.int (255 : Int32)), (.int (0 : Int32))])) _
    refine XS.iand X3.here hx rfl (hb hby own_d_prog_5_method_2_17) rfl ?_
    show Steps p.tables e below (T3.setTop (mkF m 18 #[.val (.ref a1), .unset] [(.int ((0 : Int32) &&& (255 : Int32)))])) _
    refine XS.bipush X3.here hx rfl (hb hby own_d_prog_5_method_2_18) ?_
    show Steps p.tables e below (T3.setTop (mkF m 20 #[.val (.ref a1), .unset] [(.int (24 : Int32)), (.int ((0 : Int32) &&& (255 : Int32)))])) _
    refine XS.ishl X3.here hx rfl (hb hby own_d_prog_5_method_2_20) rfl ?_
    show Steps p.tables e below (T3.setTop (mkF m 21 #[.val (.ref a1), .unset] [(.int (((0 : Int32) &&& (255 : Int32)) <<< ((24 : Int32) &&& 31)))])) _
    refine XS.aloadN X3.here hx rfl (hb hby own_d_prog_5_method_2_21) rfl rfl ?_
    show Steps p.tables e below (T3.setTop (mkF m 22 #[.val (.ref a1), .unset] [(.ref a1), (.int (((0 : Int32) &&& (255 : Int32)) <<< ((24 : Int32) &&& 31)))])) _
    refine st5 _ ?_
    show Steps p.tables e below (T5.setTop (mkF m 25 #[.val (.ref a1), .unset] [(.ref b), (.int (((0 : Int32) &&& (255 : Int32)) <<< ((24 : Int32) &&& 31)))])) _
    refine XS.aloadN X5.here hx rfl (hb hby own_d_prog_5_method_2_25) rfl rfl ?_
    show Steps p.tables e below (T5.setTop (mkF m 26 #[.val (.ref a1), .unset] [(.ref a1), (.ref b), (.int (((0 : Int32) &&& (255 : Int32)) <<< ((24 : Int32) &&& 31)))])) _
    refine st6 _ ?_
    show Steps p.tables e below (T6.setTop (mkF m 29 #[.val (.ref a1), .unset] [(.int (0 : Int32)), (.ref b), (.int (((0 : Int32) &&& (255 : Int32)) <<< ((24 : Int32) &&& 31)))])) _
    refine XS.iconst X6.here hx rfl (hb hby own_d_prog_5_method_2_29) ?_
    show Steps p.tables e below (T6.setTop (mkF m 30 #[.val (.ref a1), .unset] [(.int (1 : Int32)), (.int (0 : Int32)), (.ref b), (.int (((0 : Int32) &&& (255 : Int32)) <<< ((24 : Int32) &&& 31)))])) _
    refine XS.iadd X6.here hx rfl (hb hby own_d_prog_5_method_2_30) rfl ?_
    show Steps p.tables e below (T6.setTop (mkF m 31 #[.val (.ref a1), .unset] [(.int ((0 : Int32) + (1 : Int32))), (.ref b), (.int (((0 : Int32) &&& (255 : Int32)) <<< ((24 : Int32) &&& 31)))])) _
    refine X6.baloadBytes hx (j := ((0 : Int32) + (1 : Int32))) (v := (.int (0 : Int32))) (by rw [e6]; exact Ar7.1) (State.isArrayOf_alike hZ.alike Ar7.2.1) Ar7.2.2 hin7 hat7 (g := (mkF m 31 #[.val (.ref a1), .unset] [(.int ((0 : Int32) + (1 : Int32))), (.ref b), (.int (((0 : Int32) &&& (255 : Int32)) <<< ((24 : Int32) &&& 31)))])) rfl rfl (hb hby own_d_prog_5_method_2_31) _ ?_
    show Steps p.tables e below (T6.setTop (mkF m 32 #[.val (.ref a1), .unset] [(.int (0 : Int32)), (.int (((0 : Int32) &&& (255 : Int32)) <<< ((24 : Int32) &&& 31)))])) _
    refine XS.sipush X6.here hx rfl (hb hby own_d_prog_5_method_2_32) ?_
    show Steps p.tables e below (T6.setTop (mkF m 35 #[.val (.ref a1), .unset] [(.int (255 : Int32)), (.int (0 : Int32)), (.int (((0 : Int32) &&& (255 : Int32)) <<< ((24 : Int32) &&& 31)))])) _
    refine XS.iand X6.here hx rfl (hb hby own_d_prog_5_method_2_35) rfl ?_
    show Steps p.tables e below (T6.setTop (mkF m 36 #[.val (.ref a1), .unset] [(.int ((0 : Int32) &&& (255 : Int32))), (.int (((0 : Int32) &&& (255 : Int32)) <<< ((24 : Int32) &&& 31)))])) _
    refine XS.bipush X6.here hx rfl (hb hby own_d_prog_5_method_2_36) ?_
    show Steps p.tables e below (T6.setTop (mkF m 38 #[.val (.ref a1), .unset] [(.int (16 : Int32)), (.int ((0 : Int32) &&& (255 : Int32))), (.int (((0 : Int32) &&& (255 : Int32)) <<< ((24 : Int32) &&& 31)))])) _
    refine XS.ishl X6.here hx rfl (hb hby own_d_prog_5_method_2_38) rfl ?_
    show Steps p.tables e below (T6.setTop (mkF m 39 #[.val (.ref a1), .unset] [(.int (((0 : Int32) &&& (255 : Int32)) <<< ((16 : Int32) &&& 31))), (.int (((0 : Int32) &&& (255 : Int32)) <<< ((24 : Int32) &&& 31)))])) _
    refine XS.ior X6.here hx rfl (hb hby own_d_prog_5_method_2_39) rfl ?_
    show Steps p.tables e below (T6.setTop (mkF m 40 #[.val (.ref a1), .unset] [(.int ((((0 : Int32) &&& (255 : Int32)) <<< ((24 : Int32) &&& 31)) ||| (((0 : Int32) &&& (255 : Int32)) <<< ((16 : Int32) &&& 31))))])) _
    refine XS.aloadN X6.here hx rfl (hb hby own_d_prog_5_method_2_40) rfl rfl ?_
    show Steps p.tables e below (T6.setTop (mkF m 41 #[.val (.ref a1), .unset] [(.ref a1), (.int ((((0 : Int32) &&& (255 : Int32)) <<< ((24 : Int32) &&& 31)) ||| (((0 : Int32) &&& (255 : Int32)) <<< ((16 : Int32) &&& 31))))])) _
    refine st8 _ ?_
    show Steps p.tables e below (T8.setTop (mkF m 44 #[.val (.ref a1), .unset] [(.ref b), (.int ((((0 : Int32) &&& (255 : Int32)) <<< ((24 : Int32) &&& 31)) ||| (((0 : Int32) &&& (255 : Int32)) <<< ((16 : Int32) &&& 31))))])) _
    refine XS.aloadN X8.here hx rfl (hb hby own_d_prog_5_method_2_44) rfl rfl ?_
    show Steps p.tables e below (T8.setTop (mkF m 45 #[.val (.ref a1), .unset] [(.ref a1), (.ref b), (.int ((((0 : Int32) &&& (255 : Int32)) <<< ((24 : Int32) &&& 31)) ||| (((0 : Int32) &&& (255 : Int32)) <<< ((16 : Int32) &&& 31))))])) _
    refine st9 _ ?_
    show Steps p.tables e below (T9.setTop (mkF m 48 #[.val (.ref a1), .unset] [(.int (0 : Int32)), (.ref b), (.int ((((0 : Int32) &&& (255 : Int32)) <<< ((24 : Int32) &&& 31)) ||| (((0 : Int32) &&& (255 : Int32)) <<< ((16 : Int32) &&& 31))))])) _
    refine XS.iconst X9.here hx rfl (hb hby own_d_prog_5_method_2_48) ?_
    show Steps p.tables e below (T9.setTop (mkF m 49 #[.val (.ref a1), .unset] [(.int (2 : Int32)), (.int (0 : Int32)), (.ref b), (.int ((((0 : Int32) &&& (255 : Int32)) <<< ((24 : Int32) &&& 31)) ||| (((0 : Int32) &&& (255 : Int32)) <<< ((16 : Int32) &&& 31))))])) _
    refine XS.iadd X9.here hx rfl (hb hby own_d_prog_5_method_2_49) rfl ?_
    show Steps p.tables e below (T9.setTop (mkF m 50 #[.val (.ref a1), .unset] [(.int ((0 : Int32) + (2 : Int32))), (.ref b), (.int ((((0 : Int32) &&& (255 : Int32)) <<< ((24 : Int32) &&& 31)) ||| (((0 : Int32) &&& (255 : Int32)) <<< ((16 : Int32) &&& 31))))])) _
    refine X9.baloadBytes hx (j := ((0 : Int32) + (2 : Int32))) (v := (.int (0 : Int32))) (by rw [e9]; exact Ar10.1) (State.isArrayOf_alike hZ.alike Ar10.2.1) Ar10.2.2 hin10 hat10 (g := (mkF m 50 #[.val (.ref a1), .unset] [(.int ((0 : Int32) + (2 : Int32))), (.ref b), (.int ((((0 : Int32) &&& (255 : Int32)) <<< ((24 : Int32) &&& 31)) ||| (((0 : Int32) &&& (255 : Int32)) <<< ((16 : Int32) &&& 31))))])) rfl rfl (hb hby own_d_prog_5_method_2_50) _ ?_
    show Steps p.tables e below (T9.setTop (mkF m 51 #[.val (.ref a1), .unset] [(.int (0 : Int32)), (.int ((((0 : Int32) &&& (255 : Int32)) <<< ((24 : Int32) &&& 31)) ||| (((0 : Int32) &&& (255 : Int32)) <<< ((16 : Int32) &&& 31))))])) _
    refine XS.sipush X9.here hx rfl (hb hby own_d_prog_5_method_2_51) ?_
    show Steps p.tables e below (T9.setTop (mkF m 54 #[.val (.ref a1), .unset] [(.int (255 : Int32)), (.int (0 : Int32)), (.int ((((0 : Int32) &&& (255 : Int32)) <<< ((24 : Int32) &&& 31)) ||| (((0 : Int32) &&& (255 : Int32)) <<< ((16 : Int32) &&& 31))))])) _
    refine XS.iand X9.here hx rfl (hb hby own_d_prog_5_method_2_54) rfl ?_
    show Steps p.tables e below (T9.setTop (mkF m 55 #[.val (.ref a1), .unset] [(.int ((0 : Int32) &&& (255 : Int32))), (.int ((((0 : Int32) &&& (255 : Int32)) <<< ((24 : Int32) &&& 31)) ||| (((0 : Int32) &&& (255 : Int32)) <<< ((16 : Int32) &&& 31))))])) _
    refine XS.bipush X9.here hx rfl (hb hby own_d_prog_5_method_2_55) ?_
    show Steps p.tables e below (T9.setTop (mkF m 57 #[.val (.ref a1), .unset] [(.int (8 : Int32)), (.int ((0 : Int32) &&& (255 : Int32))), (.int ((((0 : Int32) &&& (255 : Int32)) <<< ((24 : Int32) &&& 31)) ||| (((0 : Int32) &&& (255 : Int32)) <<< ((16 : Int32) &&& 31))))])) _
    refine XS.ishl X9.here hx rfl (hb hby own_d_prog_5_method_2_57) rfl ?_
    show Steps p.tables e below (T9.setTop (mkF m 58 #[.val (.ref a1), .unset] [(.int (((0 : Int32) &&& (255 : Int32)) <<< ((8 : Int32) &&& 31))), (.int ((((0 : Int32) &&& (255 : Int32)) <<< ((24 : Int32) &&& 31)) ||| (((0 : Int32) &&& (255 : Int32)) <<< ((16 : Int32) &&& 31))))])) _
    refine XS.ior X9.here hx rfl (hb hby own_d_prog_5_method_2_58) rfl ?_
    show Steps p.tables e below (T9.setTop (mkF m 59 #[.val (.ref a1), .unset] [(.int (((((0 : Int32) &&& (255 : Int32)) <<< ((24 : Int32) &&& 31)) ||| (((0 : Int32) &&& (255 : Int32)) <<< ((16 : Int32) &&& 31))) ||| (((0 : Int32) &&& (255 : Int32)) <<< ((8 : Int32) &&& 31))))])) _
    refine XS.aloadN X9.here hx rfl (hb hby own_d_prog_5_method_2_59) rfl rfl ?_
    show Steps p.tables e below (T9.setTop (mkF m 60 #[.val (.ref a1), .unset] [(.ref a1), (.int (((((0 : Int32) &&& (255 : Int32)) <<< ((24 : Int32) &&& 31)) ||| (((0 : Int32) &&& (255 : Int32)) <<< ((16 : Int32) &&& 31))) ||| (((0 : Int32) &&& (255 : Int32)) <<< ((8 : Int32) &&& 31))))])) _
    refine st11 _ ?_
    show Steps p.tables e below (T11.setTop (mkF m 63 #[.val (.ref a1), .unset] [(.ref b), (.int (((((0 : Int32) &&& (255 : Int32)) <<< ((24 : Int32) &&& 31)) ||| (((0 : Int32) &&& (255 : Int32)) <<< ((16 : Int32) &&& 31))) ||| (((0 : Int32) &&& (255 : Int32)) <<< ((8 : Int32) &&& 31))))])) _
    refine XS.aloadN X11.here hx rfl (hb hby own_d_prog_5_method_2_63) rfl rfl ?_
    show Steps p.tables e below (T11.setTop (mkF m 64 #[.val (.ref a1), .unset] [(.ref a1), (.ref b), (.int (((((0 : Int32) &&& (255 : Int32)) <<< ((24 : Int32) &&& 31)) ||| (((0 : Int32) &&& (255 : Int32)) <<< ((16 : Int32) &&& 31))) ||| (((0 : Int32) &&& (255 : Int32)) <<< ((8 : Int32) &&& 31))))])) _
    refine st12 _ ?_
    show Steps p.tables e below (T12.setTop (mkF m 67 #[.val (.ref a1), .unset] [(.int (0 : Int32)), (.ref b), (.int (((((0 : Int32) &&& (255 : Int32)) <<< ((24 : Int32) &&& 31)) ||| (((0 : Int32) &&& (255 : Int32)) <<< ((16 : Int32) &&& 31))) ||| (((0 : Int32) &&& (255 : Int32)) <<< ((8 : Int32) &&& 31))))])) _
    refine XS.iconst X12.here hx rfl (hb hby own_d_prog_5_method_2_67) ?_
    show Steps p.tables e below (T12.setTop (mkF m 68 #[.val (.ref a1), .unset] [(.int (3 : Int32)), (.int (0 : Int32)), (.ref b), (.int (((((0 : Int32) &&& (255 : Int32)) <<< ((24 : Int32) &&& 31)) ||| (((0 : Int32) &&& (255 : Int32)) <<< ((16 : Int32) &&& 31))) ||| (((0 : Int32) &&& (255 : Int32)) <<< ((8 : Int32) &&& 31))))])) _
    refine XS.iadd X12.here hx rfl (hb hby own_d_prog_5_method_2_68) rfl ?_
    show Steps p.tables e below (T12.setTop (mkF m 69 #[.val (.ref a1), .unset] [(.int ((0 : Int32) + (3 : Int32))), (.ref b), (.int (((((0 : Int32) &&& (255 : Int32)) <<< ((24 : Int32) &&& 31)) ||| (((0 : Int32) &&& (255 : Int32)) <<< ((16 : Int32) &&& 31))) ||| (((0 : Int32) &&& (255 : Int32)) <<< ((8 : Int32) &&& 31))))])) _
    refine X12.baloadBytes hx (j := ((0 : Int32) + (3 : Int32))) (v := (.int (0 : Int32))) (by rw [e12]; exact Ar13.1) (State.isArrayOf_alike hZ.alike Ar13.2.1) Ar13.2.2 hin13 hat13 (g := (mkF m 69 #[.val (.ref a1), .unset] [(.int ((0 : Int32) + (3 : Int32))), (.ref b), (.int (((((0 : Int32) &&& (255 : Int32)) <<< ((24 : Int32) &&& 31)) ||| (((0 : Int32) &&& (255 : Int32)) <<< ((16 : Int32) &&& 31))) ||| (((0 : Int32) &&& (255 : Int32)) <<< ((8 : Int32) &&& 31))))])) rfl rfl (hb hby own_d_prog_5_method_2_69) _ ?_
    show Steps p.tables e below (T12.setTop (mkF m 70 #[.val (.ref a1), .unset] [(.int (0 : Int32)), (.int (((((0 : Int32) &&& (255 : Int32)) <<< ((24 : Int32) &&& 31)) ||| (((0 : Int32) &&& (255 : Int32)) <<< ((16 : Int32) &&& 31))) ||| (((0 : Int32) &&& (255 : Int32)) <<< ((8 : Int32) &&& 31))))])) _
    refine XS.sipush X12.here hx rfl (hb hby own_d_prog_5_method_2_70) ?_
    show Steps p.tables e below (T12.setTop (mkF m 73 #[.val (.ref a1), .unset] [(.int (255 : Int32)), (.int (0 : Int32)), (.int (((((0 : Int32) &&& (255 : Int32)) <<< ((24 : Int32) &&& 31)) ||| (((0 : Int32) &&& (255 : Int32)) <<< ((16 : Int32) &&& 31))) ||| (((0 : Int32) &&& (255 : Int32)) <<< ((8 : Int32) &&& 31))))])) _
    refine XS.iand X12.here hx rfl (hb hby own_d_prog_5_method_2_73) rfl ?_
    show Steps p.tables e below (T12.setTop (mkF m 74 #[.val (.ref a1), .unset] [(.int ((0 : Int32) &&& (255 : Int32))), (.int (((((0 : Int32) &&& (255 : Int32)) <<< ((24 : Int32) &&& 31)) ||| (((0 : Int32) &&& (255 : Int32)) <<< ((16 : Int32) &&& 31))) ||| (((0 : Int32) &&& (255 : Int32)) <<< ((8 : Int32) &&& 31))))])) _
    refine XS.ior X12.here hx rfl (hb hby own_d_prog_5_method_2_74) rfl ?_
    show Steps p.tables e below (T12.setTop (mkF m 75 #[.val (.ref a1), .unset] [(.int ((((((0 : Int32) &&& (255 : Int32)) <<< ((24 : Int32) &&& 31)) ||| (((0 : Int32) &&& (255 : Int32)) <<< ((16 : Int32) &&& 31))) ||| (((0 : Int32) &&& (255 : Int32)) <<< ((8 : Int32) &&& 31))) ||| ((0 : Int32) &&& (255 : Int32))))])) _
    refine XS.istoreN X12.here hx rfl (hb hby own_d_prog_5_method_2_75) rfl (l' := #[.val (.ref a1), .val (.int ((((((0 : Int32) &&& (255 : Int32)) <<< ((24 : Int32) &&& 31)) ||| (((0 : Int32) &&& (255 : Int32)) <<< ((16 : Int32) &&& 31))) ||| (((0 : Int32) &&& (255 : Int32)) <<< ((8 : Int32) &&& 31))) ||| ((0 : Int32) &&& (255 : Int32))))]) rfl ?_
    show Steps p.tables e below (T12.setTop (mkF m 76 #[.val (.ref a1), .val (.int ((((((0 : Int32) &&& (255 : Int32)) <<< ((24 : Int32) &&& 31)) ||| (((0 : Int32) &&& (255 : Int32)) <<< ((16 : Int32) &&& 31))) ||| (((0 : Int32) &&& (255 : Int32)) <<< ((8 : Int32) &&& 31))) ||| ((0 : Int32) &&& (255 : Int32))))] [])) _
    refine XS.aloadN X12.here hx rfl (hb hby own_d_prog_5_method_2_76) rfl rfl ?_
    show Steps p.tables e below (T12.setTop (mkF m 77 #[.val (.ref a1), .val (.int ((((((0 : Int32) &&& (255 : Int32)) <<< ((24 : Int32) &&& 31)) ||| (((0 : Int32) &&& (255 : Int32)) <<< ((16 : Int32) &&& 31))) ||| (((0 : Int32) &&& (255 : Int32)) <<< ((8 : Int32) &&& 31))) ||| ((0 : Int32) &&& (255 : Int32))))] [(.ref a1)])) _
    refine XS.dup X12.here hx rfl (hb hby own_d_prog_5_method_2_77) rfl rfl ?_
    show Steps p.tables e below (T12.setTop (mkF m 78 #[.val (.ref a1), .val (.int ((((((0 : Int32) &&& (255 : Int32)) <<< ((24 : Int32) &&& 31)) ||| (((0 : Int32) &&& (255 : Int32)) <<< ((16 : Int32) &&& 31))) ||| (((0 : Int32) &&& (255 : Int32)) <<< ((8 : Int32) &&& 31))) ||| ((0 : Int32) &&& (255 : Int32))))] [(.ref a1), (.ref a1)])) _
    refine st14 _ ?_
    show Steps p.tables e below (T14.setTop (mkF m 81 #[.val (.ref a1), .val (.int ((((((0 : Int32) &&& (255 : Int32)) <<< ((24 : Int32) &&& 31)) ||| (((0 : Int32) &&& (255 : Int32)) <<< ((16 : Int32) &&& 31))) ||| (((0 : Int32) &&& (255 : Int32)) <<< ((8 : Int32) &&& 31))) ||| ((0 : Int32) &&& (255 : Int32))))] [(.int (0 : Int32)), (.ref a1)])) _
    refine XS.iconst X14.here hx rfl (hb hby own_d_prog_5_method_2_81) ?_
    show Steps p.tables e below (T14.setTop (mkF m 82 #[.val (.ref a1), .val (.int ((((((0 : Int32) &&& (255 : Int32)) <<< ((24 : Int32) &&& 31)) ||| (((0 : Int32) &&& (255 : Int32)) <<< ((16 : Int32) &&& 31))) ||| (((0 : Int32) &&& (255 : Int32)) <<< ((8 : Int32) &&& 31))) ||| ((0 : Int32) &&& (255 : Int32))))] [(.int (4 : Int32)), (.int (0 : Int32)), (.ref a1)])) _
    refine XS.iadd X14.here hx rfl (hb hby own_d_prog_5_method_2_82) rfl ?_
    show Steps p.tables e below (T14.setTop (mkF m 83 #[.val (.ref a1), .val (.int ((((((0 : Int32) &&& (255 : Int32)) <<< ((24 : Int32) &&& 31)) ||| (((0 : Int32) &&& (255 : Int32)) <<< ((16 : Int32) &&& 31))) ||| (((0 : Int32) &&& (255 : Int32)) <<< ((8 : Int32) &&& 31))) ||| ((0 : Int32) &&& (255 : Int32))))] [(.int ((0 : Int32) + (4 : Int32))), (.ref a1)])) _
    refine st15 _ ?_
    show Steps p.tables e below (T15.setTop (mkF m 86 #[.val (.ref a1), .val (.int ((((((0 : Int32) &&& (255 : Int32)) <<< ((24 : Int32) &&& 31)) ||| (((0 : Int32) &&& (255 : Int32)) <<< ((16 : Int32) &&& 31))) ||| (((0 : Int32) &&& (255 : Int32)) <<< ((8 : Int32) &&& 31))) ||| ((0 : Int32) &&& (255 : Int32))))] [])) _
    refine XS.iloadN X15.here hx rfl (hb hby own_d_prog_5_method_2_86) rfl ?_
    show Steps p.tables e below (T15.setTop (mkF m 87 #[.val (.ref a1), .val (.int ((((((0 : Int32) &&& (255 : Int32)) <<< ((24 : Int32) &&& 31)) ||| (((0 : Int32) &&& (255 : Int32)) <<< ((16 : Int32) &&& 31))) ||| (((0 : Int32) &&& (255 : Int32)) <<< ((8 : Int32) &&& 31))) ||| ((0 : Int32) &&& (255 : Int32))))] [(.int ((((((0 : Int32) &&& (255 : Int32)) <<< ((24 : Int32) &&& 31)) ||| (((0 : Int32) &&& (255 : Int32)) <<< ((16 : Int32) &&& 31))) ||| (((0 : Int32) &&& (255 : Int32)) <<< ((8 : Int32) &&& 31))) ||| ((0 : Int32) &&& (255 : Int32))))])) _
    exact retI X15 hx Bd.returns (hb hby own_d_prog_5_method_2_87) hr
  · show own_Q_rint Z a1 b k n h0 n0 _ T15.heap _
    rw [e15]
    exact ⟨rfl, N15, ⟨E15_a1, Fw15_a1_fields, Fw15_a1_position, Vw15_b, ne0⟩, Z15⟩
theorem own_pd1 : parseMethodDescriptor "()Z" = some ⟨[], some .boolean⟩ := by decide +kernel
set_option maxRecDepth 65536 in
set_option maxHeartbeats 40000000 in
theorem own_seg1 {p : Program} {l : Launch} {e : Env} {s : State} {m : MethodId} {args : Array Value} {below : List Frame} {meth : Method} {c : Code} {T0 : State} {locs : List Loc} {cells slots : Nat} {Z : State} {a0 : Array Value} {h0 : Heap} {n0 : Nat} {p1 p2 p3 n c1 lf kk q : Int32} {a1 b : Addr} {k : ClassId}
    (X0 : Stand p l e room_1 s m args below meth c T0 locs cells slots) (hx : p.tables.exec = Jvm.exec) (hZ : Z.Warmed39 s.vm) (hw : ∀ d ∈ tables_1, d.before a0 Z = true) (hby : c.code = code) (hml : c.maxLocals = 10) (hown : s.vm.findClass "com/example/accordant/accordant/FieldReaderAtEndPinLaw" = some m.cls) (e0 : T0.heap = h0) (N0 : Fr n0 locs) (Z0 : n0 ≤ h0.size) (O0 : own_Rd Z h0 a1 b k n q) (g0 : n0 ≤ a1) (hcells : cells + 0 ≤ room_1.cells) (hslots : slots + 0 ≤ room_1.slots)
    (hq : ¬ kk < (1 : Int32) → ¬ q < (0 : Int32) ∧ q < n ∧ ¬ (n - q) < (1 : Int32)) :
    ∃ (T' : State) (locs' : List Loc), Stand p l e room_1 s m args below meth c T' locs' cells slots ∧ Fr n0 locs' ∧ own_Rd Z T'.heap a1 b k n (if kk < (1 : Int32) then q else (q + (1 : Int32))) ∧ n0 ≤ T'.heap.size ∧ ∀ target, Steps p.tables e below (T'.setTop (mkF m 130 #[.val (.int p1), .val (.int p2), .val (.int p3), .val (.int n), .val (.ref b), .val (.ref a1), .val (.int (1 : Int32)), .val (.int c1), .val (.int lf), .val (.int kk)] [])) target → Steps p.tables e below (T0.setTop (mkF m 118 #[.val (.int p1), .val (.int p2), .val (.int p3), .val (.int n), .val (.ref b), .val (.ref a1), .val (.int (1 : Int32)), .val (.int c1), .val (.int lf), .val (.int kk)] [])) target := by
  by_cases hk : kk < (1 : Int32)
  · refine ⟨T0, locs, X0, N0, (by rw [if_pos hk, e0]; exact O0), (by rw [e0]; exact Z0), fun target kt => ?_⟩
    show Steps p.tables e below (T0.setTop (mkF m 118 #[.val (.int p1), .val (.int p2), .val (.int p3), .val (.int n), .val (.ref b), .val (.ref a1), .val (.int (1 : Int32)), .val (.int c1), .val (.int lf), .val (.int kk)] [])) _
    refine XS.iload X0.here hx rfl (hb hby at_118) rfl ?_
    show Steps p.tables e below (T0.setTop (mkF m 120 #[.val (.int p1), .val (.int p2), .val (.int p3), .val (.int n), .val (.ref b), .val (.ref a1), .val (.int (1 : Int32)), .val (.int c1), .val (.int lf), .val (.int kk)] [(.int kk)])) _
    refine XS.iconst X0.here hx rfl (hb hby at_120) ?_
    show Steps p.tables e below (T0.setTop (mkF m 121 #[.val (.int p1), .val (.int p2), .val (.int p3), .val (.int n), .val (.ref b), .val (.ref a1), .val (.int (1 : Int32)), .val (.int c1), .val (.int lf), .val (.int kk)] [(.int (1 : Int32)), (.int kk)])) _
    refine XS.icmpYes X0.here hx rfl (pc0 := 121) (pc' := 130) rfl (hb hby at_121) rfl (tlt hk).1 (by decide) (by decide) ?_
    exact kt
  · obtain ⟨E0, F0f, F0p, V0, ne0⟩ := O0
    obtain ⟨cq1, kq1, q1a, q1b, q1c⟩ := isOf hZ e0 E0
    obtain ⟨_, _, ⟨T1, L1, k1, n1⟩, -, X1, ⟨Lc1, hQ1, l1, y1, z1⟩, st1⟩ := X0.virtualBack hx (y := (⟨"com/example/accordant/accordant/FieldReader", "readBoolean", "()Z"⟩ : MethodName)) (z := (⟨"com/example/accordant/accordant/FieldReader", "readBoolean", "()Z"⟩ : MethodName)) hown (mvT hZ (hw _ (List.mem_of_getElem? (i := 20) rfl))) (mvT hZ (hw _ (List.mem_of_getElem? (i := 21) rfl))) (notFace_of_selects (args := #[]) (mvT hZ (hw _ (List.mem_of_getElem? (i := 23) rfl)))) (mvT hZ (hw _ (List.mem_of_getElem? (i := 23) rfl))) (mvT hZ (hw _ (List.mem_of_getElem? (i := 22) rfl))) (by decide) (backOf (W := 0) (own_rm_rbool l Z a0 hw [] a1 b k n q h0 n0 Z0 ⟨E0, F0f, F0p, V0, ne0⟩ g0 (hq hk)) hZ (hw _ (List.mem_of_getElem? (i := 24) rfl)) (hw _ (List.mem_of_getElem? (i := 4) rfl)) (by decide) (by decide)) q1a q1c (g := (mkF m 126 #[.val (.int p1), .val (.int p2), .val (.int p3), .val (.int n), .val (.ref b), .val (.ref a1), .val (.int (1 : Int32)), .val (.int c1), .val (.int lf), .val (.int kk)] [(.ref a1)])) rfl (by rw [hml]; rfl) (Steps.refl _) (argsL := []) (rest := []) (lenOf own_pd1 rfl) rfl (by show 2 * 0 + _ ≤ _; exact Nat.le_of_eq rfl) (hb hby at_126) (fun _ _ => ⟨rfl, e0, hcells, hslots⟩)
    dsimp only [Pt.U, Pt.locs, Pt.cells, Pt.slots] at X1 l1 y1 z1 st1 hQ1
    subst l1 y1 z1
    obtain ⟨rfl, N1q, Oq1, Zq1⟩ := hQ1
    have N1 := Fr.app N0 N1q
    obtain ⟨Eq1, Ff1, Fp1, Vq1, ne1q⟩ := Oq1
    refine ⟨T1, _, X1, N1, (by rw [if_neg hk]; exact ⟨Eq1, Ff1, Fp1, Vq1, ne1q⟩), Zq1, fun target kt => ?_⟩
    show Steps p.tables e below (T0.setTop (mkF m 118 #[.val (.int p1), .val (.int p2), .val (.int p3), .val (.int n), .val (.ref b), .val (.ref a1), .val (.int (1 : Int32)), .val (.int c1), .val (.int lf), .val (.int kk)] [])) _
    refine XS.iload X0.here hx rfl (hb hby at_118) rfl ?_
    show Steps p.tables e below (T0.setTop (mkF m 120 #[.val (.int p1), .val (.int p2), .val (.int p3), .val (.int n), .val (.ref b), .val (.ref a1), .val (.int (1 : Int32)), .val (.int c1), .val (.int lf), .val (.int kk)] [(.int kk)])) _
    refine XS.iconst X0.here hx rfl (hb hby at_120) ?_
    show Steps p.tables e below (T0.setTop (mkF m 121 #[.val (.int p1), .val (.int p2), .val (.int p3), .val (.int n), .val (.ref b), .val (.ref a1), .val (.int (1 : Int32)), .val (.int c1), .val (.int lf), .val (.int kk)] [(.int (1 : Int32)), (.int kk)])) _
    refine XS.icmpNo X0.here hx rfl (hb hby at_121) rfl (flt hk).1 ?_
    show Steps p.tables e below (T0.setTop (mkF m 124 #[.val (.int p1), .val (.int p2), .val (.int p3), .val (.int n), .val (.ref b), .val (.ref a1), .val (.int (1 : Int32)), .val (.int c1), .val (.int lf), .val (.int kk)] [])) _
    refine XS.aload X0.here hx rfl (hb hby at_124) rfl rfl ?_
    show Steps p.tables e below (T0.setTop (mkF m 126 #[.val (.int p1), .val (.int p2), .val (.int p3), .val (.int n), .val (.ref b), .val (.ref a1), .val (.int (1 : Int32)), .val (.int c1), .val (.int lf), .val (.int kk)] [(.ref a1)])) _
    refine st1.trans ?_
    show Steps p.tables e below (T1.setTop (mkF m 129 #[.val (.int p1), .val (.int p2), .val (.int p3), .val (.int n), .val (.ref b), .val (.ref a1), .val (.int (1 : Int32)), .val (.int c1), .val (.int lf), .val (.int kk)] [(.int (0 : Int32))])) _
    refine XS.pop X1.here hx rfl (hb hby at_129) rfl rfl ?_
    exact kt
set_option maxRecDepth 65536 in
set_option maxHeartbeats 40000000 in
theorem own_seg2 {p : Program} {l : Launch} {e : Env} {s : State} {m : MethodId} {args : Array Value} {below : List Frame} {meth : Method} {c : Code} {T0 : State} {locs : List Loc} {cells slots : Nat} {Z : State} {a0 : Array Value} {h0 : Heap} {n0 : Nat} {p1 p2 p3 n c1 lf kk q : Int32} {a1 b : Addr} {k : ClassId}
    (X0 : Stand p l e room_1 s m args below meth c T0 locs cells slots) (hx : p.tables.exec = Jvm.exec) (hZ : Z.Warmed39 s.vm) (hw : ∀ d ∈ tables_1, d.before a0 Z = true) (hby : c.code = code) (hml : c.maxLocals = 10) (hown : s.vm.findClass "com/example/accordant/accordant/FieldReaderAtEndPinLaw" = some m.cls) (e0 : T0.heap = h0) (N0 : Fr n0 locs) (Z0 : n0 ≤ h0.size) (O0 : own_Rd Z h0 a1 b k n q) (g0 : n0 ≤ a1) (hcells : cells + 0 ≤ room_1.cells) (hslots : slots + 0 ≤ room_1.slots)
    (hq : ¬ kk < (2 : Int32) → ¬ q < (0 : Int32) ∧ q < n ∧ ¬ (n - q) < (1 : Int32)) :
    ∃ (T' : State) (locs' : List Loc), Stand p l e room_1 s m args below meth c T' locs' cells slots ∧ Fr n0 locs' ∧ own_Rd Z T'.heap a1 b k n (if kk < (2 : Int32) then q else (q + (1 : Int32))) ∧ n0 ≤ T'.heap.size ∧ ∀ target, Steps p.tables e below (T'.setTop (mkF m 142 #[.val (.int p1), .val (.int p2), .val (.int p3), .val (.int n), .val (.ref b), .val (.ref a1), .val (.int (1 : Int32)), .val (.int c1), .val (.int lf), .val (.int kk)] [])) target → Steps p.tables e below (T0.setTop (mkF m 130 #[.val (.int p1), .val (.int p2), .val (.int p3), .val (.int n), .val (.ref b), .val (.ref a1), .val (.int (1 : Int32)), .val (.int c1), .val (.int lf), .val (.int kk)] [])) target := by
  by_cases hk : kk < (2 : Int32)
  · refine ⟨T0, locs, X0, N0, (by rw [if_pos hk, e0]; exact O0), (by rw [e0]; exact Z0), fun target kt => ?_⟩
    show Steps p.tables e below (T0.setTop (mkF m 130 #[.val (.int p1), .val (.int p2), .val (.int p3), .val (.int n), .val (.ref b), .val (.ref a1), .val (.int (1 : Int32)), .val (.int c1), .val (.int lf), .val (.int kk)] [])) _
    refine XS.iload X0.here hx rfl (hb hby at_130) rfl ?_
    show Steps p.tables e below (T0.setTop (mkF m 132 #[.val (.int p1), .val (.int p2), .val (.int p3), .val (.int n), .val (.ref b), .val (.ref a1), .val (.int (1 : Int32)), .val (.int c1), .val (.int lf), .val (.int kk)] [(.int kk)])) _
    refine XS.iconst X0.here hx rfl (hb hby at_132) ?_
    show Steps p.tables e below (T0.setTop (mkF m 133 #[.val (.int p1), .val (.int p2), .val (.int p3), .val (.int n), .val (.ref b), .val (.ref a1), .val (.int (1 : Int32)), .val (.int c1), .val (.int lf), .val (.int kk)] [(.int (2 : Int32)), (.int kk)])) _
    refine XS.icmpYes X0.here hx rfl (pc0 := 133) (pc' := 142) rfl (hb hby at_133) rfl (tlt hk).1 (by decide) (by decide) ?_
    exact kt
  · obtain ⟨E0, F0f, F0p, V0, ne0⟩ := O0
    obtain ⟨cq1, kq1, q1a, q1b, q1c⟩ := isOf hZ e0 E0
    obtain ⟨_, _, ⟨T1, L1, k1, n1⟩, -, X1, ⟨Lc1, hQ1, l1, y1, z1⟩, st1⟩ := X0.virtualBack hx (y := (⟨"com/example/accordant/accordant/FieldReader", "readBoolean", "()Z"⟩ : MethodName)) (z := (⟨"com/example/accordant/accordant/FieldReader", "readBoolean", "()Z"⟩ : MethodName)) hown (mvT hZ (hw _ (List.mem_of_getElem? (i := 20) rfl))) (mvT hZ (hw _ (List.mem_of_getElem? (i := 21) rfl))) (notFace_of_selects (args := #[]) (mvT hZ (hw _ (List.mem_of_getElem? (i := 23) rfl)))) (mvT hZ (hw _ (List.mem_of_getElem? (i := 23) rfl))) (mvT hZ (hw _ (List.mem_of_getElem? (i := 22) rfl))) (by decide) (backOf (W := 0) (own_rm_rbool l Z a0 hw [] a1 b k n q h0 n0 Z0 ⟨E0, F0f, F0p, V0, ne0⟩ g0 (hq hk)) hZ (hw _ (List.mem_of_getElem? (i := 24) rfl)) (hw _ (List.mem_of_getElem? (i := 4) rfl)) (by decide) (by decide)) q1a q1c (g := (mkF m 138 #[.val (.int p1), .val (.int p2), .val (.int p3), .val (.int n), .val (.ref b), .val (.ref a1), .val (.int (1 : Int32)), .val (.int c1), .val (.int lf), .val (.int kk)] [(.ref a1)])) rfl (by rw [hml]; rfl) (Steps.refl _) (argsL := []) (rest := []) (lenOf own_pd1 rfl) rfl (by show 2 * 0 + _ ≤ _; exact Nat.le_of_eq rfl) (hb hby at_138) (fun _ _ => ⟨rfl, e0, hcells, hslots⟩)
    dsimp only [Pt.U, Pt.locs, Pt.cells, Pt.slots] at X1 l1 y1 z1 st1 hQ1
    subst l1 y1 z1
    obtain ⟨rfl, N1q, Oq1, Zq1⟩ := hQ1
    have N1 := Fr.app N0 N1q
    obtain ⟨Eq1, Ff1, Fp1, Vq1, ne1q⟩ := Oq1
    refine ⟨T1, _, X1, N1, (by rw [if_neg hk]; exact ⟨Eq1, Ff1, Fp1, Vq1, ne1q⟩), Zq1, fun target kt => ?_⟩
    show Steps p.tables e below (T0.setTop (mkF m 130 #[.val (.int p1), .val (.int p2), .val (.int p3), .val (.int n), .val (.ref b), .val (.ref a1), .val (.int (1 : Int32)), .val (.int c1), .val (.int lf), .val (.int kk)] [])) _
    refine XS.iload X0.here hx rfl (hb hby at_130) rfl ?_
    show Steps p.tables e below (T0.setTop (mkF m 132 #[.val (.int p1), .val (.int p2), .val (.int p3), .val (.int n), .val (.ref b), .val (.ref a1), .val (.int (1 : Int32)), .val (.int c1), .val (.int lf), .val (.int kk)] [(.int kk)])) _
    refine XS.iconst X0.here hx rfl (hb hby at_132) ?_
    show Steps p.tables e below (T0.setTop (mkF m 133 #[.val (.int p1), .val (.int p2), .val (.int p3), .val (.int n), .val (.ref b), .val (.ref a1), .val (.int (1 : Int32)), .val (.int c1), .val (.int lf), .val (.int kk)] [(.int (2 : Int32)), (.int kk)])) _
    refine XS.icmpNo X0.here hx rfl (hb hby at_133) rfl (flt hk).1 ?_
    show Steps p.tables e below (T0.setTop (mkF m 136 #[.val (.int p1), .val (.int p2), .val (.int p3), .val (.int n), .val (.ref b), .val (.ref a1), .val (.int (1 : Int32)), .val (.int c1), .val (.int lf), .val (.int kk)] [])) _
    refine XS.aload X0.here hx rfl (hb hby at_136) rfl rfl ?_
    show Steps p.tables e below (T0.setTop (mkF m 138 #[.val (.int p1), .val (.int p2), .val (.int p3), .val (.int n), .val (.ref b), .val (.ref a1), .val (.int (1 : Int32)), .val (.int c1), .val (.int lf), .val (.int kk)] [(.ref a1)])) _
    refine st1.trans ?_
    show Steps p.tables e below (T1.setTop (mkF m 141 #[.val (.int p1), .val (.int p2), .val (.int p3), .val (.int n), .val (.ref b), .val (.ref a1), .val (.int (1 : Int32)), .val (.int c1), .val (.int lf), .val (.int kk)] [(.int (0 : Int32))])) _
    refine XS.pop X1.here hx rfl (hb hby at_141) rfl rfl ?_
    exact kt
set_option maxRecDepth 65536 in
set_option maxHeartbeats 40000000 in
theorem own_seg3 {p : Program} {l : Launch} {e : Env} {s : State} {m : MethodId} {args : Array Value} {below : List Frame} {meth : Method} {c : Code} {T0 : State} {locs : List Loc} {cells slots : Nat} {Z : State} {a0 : Array Value} {h0 : Heap} {n0 : Nat} {p1 p2 p3 n c1 lf kk q : Int32} {a1 b : Addr} {k : ClassId}
    (X0 : Stand p l e room_1 s m args below meth c T0 locs cells slots) (hx : p.tables.exec = Jvm.exec) (hZ : Z.Warmed39 s.vm) (hw : ∀ d ∈ tables_1, d.before a0 Z = true) (hby : c.code = code) (hml : c.maxLocals = 10) (hown : s.vm.findClass "com/example/accordant/accordant/FieldReaderAtEndPinLaw" = some m.cls) (e0 : T0.heap = h0) (N0 : Fr n0 locs) (Z0 : n0 ≤ h0.size) (O0 : own_Rd Z h0 a1 b k n q) (g0 : n0 ≤ a1) (hcells : cells + 0 ≤ room_1.cells) (hslots : slots + 0 ≤ room_1.slots)
    (hq : ¬ kk < (3 : Int32) → ¬ q < (0 : Int32) ∧ q < n ∧ ¬ (n - q) < (1 : Int32)) :
    ∃ (T' : State) (locs' : List Loc), Stand p l e room_1 s m args below meth c T' locs' cells slots ∧ Fr n0 locs' ∧ own_Rd Z T'.heap a1 b k n (if kk < (3 : Int32) then q else (q + (1 : Int32))) ∧ n0 ≤ T'.heap.size ∧ ∀ target, Steps p.tables e below (T'.setTop (mkF m 154 #[.val (.int p1), .val (.int p2), .val (.int p3), .val (.int n), .val (.ref b), .val (.ref a1), .val (.int (1 : Int32)), .val (.int c1), .val (.int lf), .val (.int kk)] [])) target → Steps p.tables e below (T0.setTop (mkF m 142 #[.val (.int p1), .val (.int p2), .val (.int p3), .val (.int n), .val (.ref b), .val (.ref a1), .val (.int (1 : Int32)), .val (.int c1), .val (.int lf), .val (.int kk)] [])) target := by
  by_cases hk : kk < (3 : Int32)
  · refine ⟨T0, locs, X0, N0, (by rw [if_pos hk, e0]; exact O0), (by rw [e0]; exact Z0), fun target kt => ?_⟩
    show Steps p.tables e below (T0.setTop (mkF m 142 #[.val (.int p1), .val (.int p2), .val (.int p3), .val (.int n), .val (.ref b), .val (.ref a1), .val (.int (1 : Int32)), .val (.int c1), .val (.int lf), .val (.int kk)] [])) _
    refine XS.iload X0.here hx rfl (hb hby at_142) rfl ?_
    show Steps p.tables e below (T0.setTop (mkF m 144 #[.val (.int p1), .val (.int p2), .val (.int p3), .val (.int n), .val (.ref b), .val (.ref a1), .val (.int (1 : Int32)), .val (.int c1), .val (.int lf), .val (.int kk)] [(.int kk)])) _
    refine XS.iconst X0.here hx rfl (hb hby at_144) ?_
    show Steps p.tables e below (T0.setTop (mkF m 145 #[.val (.int p1), .val (.int p2), .val (.int p3), .val (.int n), .val (.ref b), .val (.ref a1), .val (.int (1 : Int32)), .val (.int c1), .val (.int lf), .val (.int kk)] [(.int (3 : Int32)), (.int kk)])) _
    refine XS.icmpYes X0.here hx rfl (pc0 := 145) (pc' := 154) rfl (hb hby at_145) rfl (tlt hk).1 (by decide) (by decide) ?_
    exact kt
  · obtain ⟨E0, F0f, F0p, V0, ne0⟩ := O0
    obtain ⟨cq1, kq1, q1a, q1b, q1c⟩ := isOf hZ e0 E0
    obtain ⟨_, _, ⟨T1, L1, k1, n1⟩, -, X1, ⟨Lc1, hQ1, l1, y1, z1⟩, st1⟩ := X0.virtualBack hx (y := (⟨"com/example/accordant/accordant/FieldReader", "readBoolean", "()Z"⟩ : MethodName)) (z := (⟨"com/example/accordant/accordant/FieldReader", "readBoolean", "()Z"⟩ : MethodName)) hown (mvT hZ (hw _ (List.mem_of_getElem? (i := 20) rfl))) (mvT hZ (hw _ (List.mem_of_getElem? (i := 21) rfl))) (notFace_of_selects (args := #[]) (mvT hZ (hw _ (List.mem_of_getElem? (i := 23) rfl)))) (mvT hZ (hw _ (List.mem_of_getElem? (i := 23) rfl))) (mvT hZ (hw _ (List.mem_of_getElem? (i := 22) rfl))) (by decide) (backOf (W := 0) (own_rm_rbool l Z a0 hw [] a1 b k n q h0 n0 Z0 ⟨E0, F0f, F0p, V0, ne0⟩ g0 (hq hk)) hZ (hw _ (List.mem_of_getElem? (i := 24) rfl)) (hw _ (List.mem_of_getElem? (i := 4) rfl)) (by decide) (by decide)) q1a q1c (g := (mkF m 150 #[.val (.int p1), .val (.int p2), .val (.int p3), .val (.int n), .val (.ref b), .val (.ref a1), .val (.int (1 : Int32)), .val (.int c1), .val (.int lf), .val (.int kk)] [(.ref a1)])) rfl (by rw [hml]; rfl) (Steps.refl _) (argsL := []) (rest := []) (lenOf own_pd1 rfl) rfl (by show 2 * 0 + _ ≤ _; exact Nat.le_of_eq rfl) (hb hby at_150) (fun _ _ => ⟨rfl, e0, hcells, hslots⟩)
    dsimp only [Pt.U, Pt.locs, Pt.cells, Pt.slots] at X1 l1 y1 z1 st1 hQ1
    subst l1 y1 z1
    obtain ⟨rfl, N1q, Oq1, Zq1⟩ := hQ1
    have N1 := Fr.app N0 N1q
    obtain ⟨Eq1, Ff1, Fp1, Vq1, ne1q⟩ := Oq1
    refine ⟨T1, _, X1, N1, (by rw [if_neg hk]; exact ⟨Eq1, Ff1, Fp1, Vq1, ne1q⟩), Zq1, fun target kt => ?_⟩
    show Steps p.tables e below (T0.setTop (mkF m 142 #[.val (.int p1), .val (.int p2), .val (.int p3), .val (.int n), .val (.ref b), .val (.ref a1), .val (.int (1 : Int32)), .val (.int c1), .val (.int lf), .val (.int kk)] [])) _
    refine XS.iload X0.here hx rfl (hb hby at_142) rfl ?_
    show Steps p.tables e below (T0.setTop (mkF m 144 #[.val (.int p1), .val (.int p2), .val (.int p3), .val (.int n), .val (.ref b), .val (.ref a1), .val (.int (1 : Int32)), .val (.int c1), .val (.int lf), .val (.int kk)] [(.int kk)])) _
    refine XS.iconst X0.here hx rfl (hb hby at_144) ?_
    show Steps p.tables e below (T0.setTop (mkF m 145 #[.val (.int p1), .val (.int p2), .val (.int p3), .val (.int n), .val (.ref b), .val (.ref a1), .val (.int (1 : Int32)), .val (.int c1), .val (.int lf), .val (.int kk)] [(.int (3 : Int32)), (.int kk)])) _
    refine XS.icmpNo X0.here hx rfl (hb hby at_145) rfl (flt hk).1 ?_
    show Steps p.tables e below (T0.setTop (mkF m 148 #[.val (.int p1), .val (.int p2), .val (.int p3), .val (.int n), .val (.ref b), .val (.ref a1), .val (.int (1 : Int32)), .val (.int c1), .val (.int lf), .val (.int kk)] [])) _
    refine XS.aload X0.here hx rfl (hb hby at_148) rfl rfl ?_
    show Steps p.tables e below (T0.setTop (mkF m 150 #[.val (.int p1), .val (.int p2), .val (.int p3), .val (.int n), .val (.ref b), .val (.ref a1), .val (.int (1 : Int32)), .val (.int c1), .val (.int lf), .val (.int kk)] [(.ref a1)])) _
    refine st1.trans ?_
    show Steps p.tables e below (T1.setTop (mkF m 153 #[.val (.int p1), .val (.int p2), .val (.int p3), .val (.int n), .val (.ref b), .val (.ref a1), .val (.int (1 : Int32)), .val (.int c1), .val (.int lf), .val (.int kk)] [(.int (0 : Int32))])) _
    refine XS.pop X1.here hx rfl (hb hby at_153) rfl rfl ?_
    exact kt
set_option maxRecDepth 65536 in
set_option maxHeartbeats 40000000 in
theorem own_seg4 {p : Program} {l : Launch} {e : Env} {s : State} {m : MethodId} {args : Array Value} {below : List Frame} {meth : Method} {c : Code} {T0 : State} {locs : List Loc} {cells slots : Nat} {Z : State} {a0 : Array Value} {h0 : Heap} {n0 : Nat} {p1 p2 p3 n c1 lf kk q : Int32} {a1 b : Addr} {k : ClassId}
    (X0 : Stand p l e room_1 s m args below meth c T0 locs cells slots) (hx : p.tables.exec = Jvm.exec) (hZ : Z.Warmed39 s.vm) (hw : ∀ d ∈ tables_1, d.before a0 Z = true) (hby : c.code = code) (hml : c.maxLocals = 10) (hown : s.vm.findClass "com/example/accordant/accordant/FieldReaderAtEndPinLaw" = some m.cls) (e0 : T0.heap = h0) (N0 : Fr n0 locs) (Z0 : n0 ≤ h0.size) (O0 : own_Rd Z h0 a1 b k n q) (g0 : n0 ≤ a1) (hcells : cells + 0 ≤ room_1.cells) (hslots : slots + 0 ≤ room_1.slots)
    (hq : ¬ kk < (4 : Int32) → ¬ q < (0 : Int32) ∧ q < n ∧ ¬ (n - q) < (1 : Int32)) :
    ∃ (T' : State) (locs' : List Loc), Stand p l e room_1 s m args below meth c T' locs' cells slots ∧ Fr n0 locs' ∧ own_Rd Z T'.heap a1 b k n (if kk < (4 : Int32) then q else (q + (1 : Int32))) ∧ n0 ≤ T'.heap.size ∧ ∀ target, Steps p.tables e below (T'.setTop (mkF m 166 #[.val (.int p1), .val (.int p2), .val (.int p3), .val (.int n), .val (.ref b), .val (.ref a1), .val (.int (1 : Int32)), .val (.int c1), .val (.int lf), .val (.int kk)] [])) target → Steps p.tables e below (T0.setTop (mkF m 154 #[.val (.int p1), .val (.int p2), .val (.int p3), .val (.int n), .val (.ref b), .val (.ref a1), .val (.int (1 : Int32)), .val (.int c1), .val (.int lf), .val (.int kk)] [])) target := by
  by_cases hk : kk < (4 : Int32)
  · refine ⟨T0, locs, X0, N0, (by rw [if_pos hk, e0]; exact O0), (by rw [e0]; exact Z0), fun target kt => ?_⟩
    show Steps p.tables e below (T0.setTop (mkF m 154 #[.val (.int p1), .val (.int p2), .val (.int p3), .val (.int n), .val (.ref b), .val (.ref a1), .val (.int (1 : Int32)), .val (.int c1), .val (.int lf), .val (.int kk)] [])) _
    refine XS.iload X0.here hx rfl (hb hby at_154) rfl ?_
    show Steps p.tables e below (T0.setTop (mkF m 156 #[.val (.int p1), .val (.int p2), .val (.int p3), .val (.int n), .val (.ref b), .val (.ref a1), .val (.int (1 : Int32)), .val (.int c1), .val (.int lf), .val (.int kk)] [(.int kk)])) _
    refine XS.iconst X0.here hx rfl (hb hby at_156) ?_
    show Steps p.tables e below (T0.setTop (mkF m 157 #[.val (.int p1), .val (.int p2), .val (.int p3), .val (.int n), .val (.ref b), .val (.ref a1), .val (.int (1 : Int32)), .val (.int c1), .val (.int lf), .val (.int kk)] [(.int (4 : Int32)), (.int kk)])) _
    refine XS.icmpYes X0.here hx rfl (pc0 := 157) (pc' := 166) rfl (hb hby at_157) rfl (tlt hk).1 (by decide) (by decide) ?_
    exact kt
  · obtain ⟨E0, F0f, F0p, V0, ne0⟩ := O0
    obtain ⟨cq1, kq1, q1a, q1b, q1c⟩ := isOf hZ e0 E0
    obtain ⟨_, _, ⟨T1, L1, k1, n1⟩, -, X1, ⟨Lc1, hQ1, l1, y1, z1⟩, st1⟩ := X0.virtualBack hx (y := (⟨"com/example/accordant/accordant/FieldReader", "readBoolean", "()Z"⟩ : MethodName)) (z := (⟨"com/example/accordant/accordant/FieldReader", "readBoolean", "()Z"⟩ : MethodName)) hown (mvT hZ (hw _ (List.mem_of_getElem? (i := 20) rfl))) (mvT hZ (hw _ (List.mem_of_getElem? (i := 21) rfl))) (notFace_of_selects (args := #[]) (mvT hZ (hw _ (List.mem_of_getElem? (i := 23) rfl)))) (mvT hZ (hw _ (List.mem_of_getElem? (i := 23) rfl))) (mvT hZ (hw _ (List.mem_of_getElem? (i := 22) rfl))) (by decide) (backOf (W := 0) (own_rm_rbool l Z a0 hw [] a1 b k n q h0 n0 Z0 ⟨E0, F0f, F0p, V0, ne0⟩ g0 (hq hk)) hZ (hw _ (List.mem_of_getElem? (i := 24) rfl)) (hw _ (List.mem_of_getElem? (i := 4) rfl)) (by decide) (by decide)) q1a q1c (g := (mkF m 162 #[.val (.int p1), .val (.int p2), .val (.int p3), .val (.int n), .val (.ref b), .val (.ref a1), .val (.int (1 : Int32)), .val (.int c1), .val (.int lf), .val (.int kk)] [(.ref a1)])) rfl (by rw [hml]; rfl) (Steps.refl _) (argsL := []) (rest := []) (lenOf own_pd1 rfl) rfl (by show 2 * 0 + _ ≤ _; exact Nat.le_of_eq rfl) (hb hby at_162) (fun _ _ => ⟨rfl, e0, hcells, hslots⟩)
    dsimp only [Pt.U, Pt.locs, Pt.cells, Pt.slots] at X1 l1 y1 z1 st1 hQ1
    subst l1 y1 z1
    obtain ⟨rfl, N1q, Oq1, Zq1⟩ := hQ1
    have N1 := Fr.app N0 N1q
    obtain ⟨Eq1, Ff1, Fp1, Vq1, ne1q⟩ := Oq1
    refine ⟨T1, _, X1, N1, (by rw [if_neg hk]; exact ⟨Eq1, Ff1, Fp1, Vq1, ne1q⟩), Zq1, fun target kt => ?_⟩
    show Steps p.tables e below (T0.setTop (mkF m 154 #[.val (.int p1), .val (.int p2), .val (.int p3), .val (.int n), .val (.ref b), .val (.ref a1), .val (.int (1 : Int32)), .val (.int c1), .val (.int lf), .val (.int kk)] [])) _
    refine XS.iload X0.here hx rfl (hb hby at_154) rfl ?_
    show Steps p.tables e below (T0.setTop (mkF m 156 #[.val (.int p1), .val (.int p2), .val (.int p3), .val (.int n), .val (.ref b), .val (.ref a1), .val (.int (1 : Int32)), .val (.int c1), .val (.int lf), .val (.int kk)] [(.int kk)])) _
    refine XS.iconst X0.here hx rfl (hb hby at_156) ?_
    show Steps p.tables e below (T0.setTop (mkF m 157 #[.val (.int p1), .val (.int p2), .val (.int p3), .val (.int n), .val (.ref b), .val (.ref a1), .val (.int (1 : Int32)), .val (.int c1), .val (.int lf), .val (.int kk)] [(.int (4 : Int32)), (.int kk)])) _
    refine XS.icmpNo X0.here hx rfl (hb hby at_157) rfl (flt hk).1 ?_
    show Steps p.tables e below (T0.setTop (mkF m 160 #[.val (.int p1), .val (.int p2), .val (.int p3), .val (.int n), .val (.ref b), .val (.ref a1), .val (.int (1 : Int32)), .val (.int c1), .val (.int lf), .val (.int kk)] [])) _
    refine XS.aload X0.here hx rfl (hb hby at_160) rfl rfl ?_
    show Steps p.tables e below (T0.setTop (mkF m 162 #[.val (.int p1), .val (.int p2), .val (.int p3), .val (.int n), .val (.ref b), .val (.ref a1), .val (.int (1 : Int32)), .val (.int c1), .val (.int lf), .val (.int kk)] [(.ref a1)])) _
    refine st1.trans ?_
    show Steps p.tables e below (T1.setTop (mkF m 165 #[.val (.int p1), .val (.int p2), .val (.int p3), .val (.int n), .val (.ref b), .val (.ref a1), .val (.int (1 : Int32)), .val (.int c1), .val (.int lf), .val (.int kk)] [(.int (0 : Int32))])) _
    refine XS.pop X1.here hx rfl (hb hby at_165) rfl rfl ?_
    exact kt
set_option maxRecDepth 65536 in
set_option maxHeartbeats 40000000 in
theorem own_seg5 {p : Program} {l : Launch} {e : Env} {s : State} {m : MethodId} {args : Array Value} {below : List Frame} {meth : Method} {c : Code} {T0 : State} {locs : List Loc} {cells slots : Nat} {Z : State} {a0 : Array Value} {h0 : Heap} {n0 : Nat} {p1 p2 p3 n c1 lf kk q : Int32} {a1 b : Addr} {k : ClassId}
    (X0 : Stand p l e room_1 s m args below meth c T0 locs cells slots) (hx : p.tables.exec = Jvm.exec) (hZ : Z.Warmed39 s.vm) (hw : ∀ d ∈ tables_1, d.before a0 Z = true) (hby : c.code = code) (hml : c.maxLocals = 10) (hown : s.vm.findClass "com/example/accordant/accordant/FieldReaderAtEndPinLaw" = some m.cls) (e0 : T0.heap = h0) (N0 : Fr n0 locs) (Z0 : n0 ≤ h0.size) (O0 : own_Rd Z h0 a1 b k n q) (g0 : n0 ≤ a1) (hcells : cells + 0 ≤ room_1.cells) (hslots : slots + 0 ≤ room_1.slots)
    (hq : ¬ kk < (5 : Int32) → ¬ q < (0 : Int32) ∧ q < n ∧ ¬ (n - q) < (1 : Int32)) :
    ∃ (T' : State) (locs' : List Loc), Stand p l e room_1 s m args below meth c T' locs' cells slots ∧ Fr n0 locs' ∧ own_Rd Z T'.heap a1 b k n (if kk < (5 : Int32) then q else (q + (1 : Int32))) ∧ n0 ≤ T'.heap.size ∧ ∀ target, Steps p.tables e below (T'.setTop (mkF m 178 #[.val (.int p1), .val (.int p2), .val (.int p3), .val (.int n), .val (.ref b), .val (.ref a1), .val (.int (1 : Int32)), .val (.int c1), .val (.int lf), .val (.int kk)] [])) target → Steps p.tables e below (T0.setTop (mkF m 166 #[.val (.int p1), .val (.int p2), .val (.int p3), .val (.int n), .val (.ref b), .val (.ref a1), .val (.int (1 : Int32)), .val (.int c1), .val (.int lf), .val (.int kk)] [])) target := by
  by_cases hk : kk < (5 : Int32)
  · refine ⟨T0, locs, X0, N0, (by rw [if_pos hk, e0]; exact O0), (by rw [e0]; exact Z0), fun target kt => ?_⟩
    show Steps p.tables e below (T0.setTop (mkF m 166 #[.val (.int p1), .val (.int p2), .val (.int p3), .val (.int n), .val (.ref b), .val (.ref a1), .val (.int (1 : Int32)), .val (.int c1), .val (.int lf), .val (.int kk)] [])) _
    refine XS.iload X0.here hx rfl (hb hby at_166) rfl ?_
    show Steps p.tables e below (T0.setTop (mkF m 168 #[.val (.int p1), .val (.int p2), .val (.int p3), .val (.int n), .val (.ref b), .val (.ref a1), .val (.int (1 : Int32)), .val (.int c1), .val (.int lf), .val (.int kk)] [(.int kk)])) _
    refine XS.iconst X0.here hx rfl (hb hby at_168) ?_
    show Steps p.tables e below (T0.setTop (mkF m 169 #[.val (.int p1), .val (.int p2), .val (.int p3), .val (.int n), .val (.ref b), .val (.ref a1), .val (.int (1 : Int32)), .val (.int c1), .val (.int lf), .val (.int kk)] [(.int (5 : Int32)), (.int kk)])) _
    refine XS.icmpYes X0.here hx rfl (pc0 := 169) (pc' := 178) rfl (hb hby at_169) rfl (tlt hk).1 (by decide) (by decide) ?_
    exact kt
  · obtain ⟨E0, F0f, F0p, V0, ne0⟩ := O0
    obtain ⟨cq1, kq1, q1a, q1b, q1c⟩ := isOf hZ e0 E0
    obtain ⟨_, _, ⟨T1, L1, k1, n1⟩, -, X1, ⟨Lc1, hQ1, l1, y1, z1⟩, st1⟩ := X0.virtualBack hx (y := (⟨"com/example/accordant/accordant/FieldReader", "readBoolean", "()Z"⟩ : MethodName)) (z := (⟨"com/example/accordant/accordant/FieldReader", "readBoolean", "()Z"⟩ : MethodName)) hown (mvT hZ (hw _ (List.mem_of_getElem? (i := 20) rfl))) (mvT hZ (hw _ (List.mem_of_getElem? (i := 21) rfl))) (notFace_of_selects (args := #[]) (mvT hZ (hw _ (List.mem_of_getElem? (i := 23) rfl)))) (mvT hZ (hw _ (List.mem_of_getElem? (i := 23) rfl))) (mvT hZ (hw _ (List.mem_of_getElem? (i := 22) rfl))) (by decide) (backOf (W := 0) (own_rm_rbool l Z a0 hw [] a1 b k n q h0 n0 Z0 ⟨E0, F0f, F0p, V0, ne0⟩ g0 (hq hk)) hZ (hw _ (List.mem_of_getElem? (i := 24) rfl)) (hw _ (List.mem_of_getElem? (i := 4) rfl)) (by decide) (by decide)) q1a q1c (g := (mkF m 174 #[.val (.int p1), .val (.int p2), .val (.int p3), .val (.int n), .val (.ref b), .val (.ref a1), .val (.int (1 : Int32)), .val (.int c1), .val (.int lf), .val (.int kk)] [(.ref a1)])) rfl (by rw [hml]; rfl) (Steps.refl _) (argsL := []) (rest := []) (lenOf own_pd1 rfl) rfl (by show 2 * 0 + _ ≤ _; exact Nat.le_of_eq rfl) (hb hby at_174) (fun _ _ => ⟨rfl, e0, hcells, hslots⟩)
    dsimp only [Pt.U, Pt.locs, Pt.cells, Pt.slots] at X1 l1 y1 z1 st1 hQ1
    subst l1 y1 z1
    obtain ⟨rfl, N1q, Oq1, Zq1⟩ := hQ1
    have N1 := Fr.app N0 N1q
    obtain ⟨Eq1, Ff1, Fp1, Vq1, ne1q⟩ := Oq1
    refine ⟨T1, _, X1, N1, (by rw [if_neg hk]; exact ⟨Eq1, Ff1, Fp1, Vq1, ne1q⟩), Zq1, fun target kt => ?_⟩
    show Steps p.tables e below (T0.setTop (mkF m 166 #[.val (.int p1), .val (.int p2), .val (.int p3), .val (.int n), .val (.ref b), .val (.ref a1), .val (.int (1 : Int32)), .val (.int c1), .val (.int lf), .val (.int kk)] [])) _
    refine XS.iload X0.here hx rfl (hb hby at_166) rfl ?_
    show Steps p.tables e below (T0.setTop (mkF m 168 #[.val (.int p1), .val (.int p2), .val (.int p3), .val (.int n), .val (.ref b), .val (.ref a1), .val (.int (1 : Int32)), .val (.int c1), .val (.int lf), .val (.int kk)] [(.int kk)])) _
    refine XS.iconst X0.here hx rfl (hb hby at_168) ?_
    show Steps p.tables e below (T0.setTop (mkF m 169 #[.val (.int p1), .val (.int p2), .val (.int p3), .val (.int n), .val (.ref b), .val (.ref a1), .val (.int (1 : Int32)), .val (.int c1), .val (.int lf), .val (.int kk)] [(.int (5 : Int32)), (.int kk)])) _
    refine XS.icmpNo X0.here hx rfl (hb hby at_169) rfl (flt hk).1 ?_
    show Steps p.tables e below (T0.setTop (mkF m 172 #[.val (.int p1), .val (.int p2), .val (.int p3), .val (.int n), .val (.ref b), .val (.ref a1), .val (.int (1 : Int32)), .val (.int c1), .val (.int lf), .val (.int kk)] [])) _
    refine XS.aload X0.here hx rfl (hb hby at_172) rfl rfl ?_
    show Steps p.tables e below (T0.setTop (mkF m 174 #[.val (.int p1), .val (.int p2), .val (.int p3), .val (.int n), .val (.ref b), .val (.ref a1), .val (.int (1 : Int32)), .val (.int c1), .val (.int lf), .val (.int kk)] [(.ref a1)])) _
    refine st1.trans ?_
    show Steps p.tables e below (T1.setTop (mkF m 177 #[.val (.int p1), .val (.int p2), .val (.int p3), .val (.int n), .val (.ref b), .val (.ref a1), .val (.int (1 : Int32)), .val (.int c1), .val (.int lf), .val (.int kk)] [(.int (0 : Int32))])) _
    refine XS.pop X1.here hx rfl (hb hby at_177) rfl rfl ?_
    exact kt
theorem own_pd2 : parseMethodDescriptor "([B)V" = some ⟨[(.array .byte)], none⟩ := by decide +kernel
theorem own_pn1 : plainName "com/example/accordant/accordant/FieldReaderAtEndPinLaw" = true := by first | (simp [plainName, overriddenIn]; done) | decide +kernel
theorem own_ef_law (m : MethodId) (x0 : Int32) (x1 : Int32) (x2 : Int32) : entryFrame m #[(.int x0), (.int x1), (.int x2)] maxLocals = mkF m 0 #[.val (.int x0), .val (.int x1), .val (.int x2), .unset, .unset, .unset, .unset, .unset, .unset, .unset] [] := by first | (simp [entryFrame, mkF, argsToLocals, Value.category, maxLocals]; done) | rfl
def own_Q_law (Z : State) (p1 : Int32) (p2 : Int32) (p3 : Int32)  (h0 : Heap) (n0 : Nat) (v : Option Value) (h : Heap) (L : List Loc) : Prop := v = some (.int (1 : Int32)) ∧ Fr n0 L
set_option maxRecDepth 65536 in
set_option maxHeartbeats 40000000 in
theorem own_rm_law_a (l : Launch) (Z : State) (a0 : Array Value) (hw : ∀ d ∈ tables_1, d.before a0 Z = true) (ws : List Jvm.Cond) (p1 : Int32) (p2 : Int32) (p3 : Int32)  (h0 : Heap) (n0 : Nat) (Z0 : n0 ≤ h0.size) (nn : Int32) (hnn : nn = ((p1 &&& (2147483647 : Int32)) % (6 : Int32))) (hf : (p2 &&& (1 : Int32)) = (0 : Int32)) :
    MetFree l x (head1 (Jvm.Cond.code x code maxLocals ret :: ws) room_1) (fun a U => a = #[(.int p1), (.int p2), (.int p3)] ∧ Z.Warmed39 U.vm ∧ U.heap = h0) (fun _ _ _ _ _ => True) (fun _ U o U' => ∃ v L, o = .returned v ∧ own_Q_law Z p1 p2 p3  h0 n0 v U'.heap L ∧ FrameEnd U o U' L room_1.cells room_1.slots) := by
  refine MetFree.of_bodySF (plainFor_of_name own_pn1) hisR ?_
  intro p e s m args below meth c s₁ Bd hml0 hP hK
  obtain ⟨rfl, hZ, hh⟩ := hP
  have hx := Bd.exec
  have hby := Bd.bytes
  have hml : c.maxLocals = 10 := hml0
  have hown : s.vm.findClass "com/example/accordant/accordant/FieldReaderAtEndPinLaw" = some m.cls := findClass_of_methodNamed Bd.named
  have hnm := (name_of_methodNamed Bd.named Bd.method).1
  have X0 : Stand p l e room_1 s m #[(.int p1), (.int p2), (.int p3)] below meth c s₁ [] 0 0 := Stand.of_body Bd
  have e0 : s₁.heap = h0 := by rw [← hh, Bd.state]; rfl
  have N0 := Fr.nil n0
  have pre0 : ∀ t, Steps p.tables e below (s₁.setTop (mkF m 0 #[.val (.int p1), .val (.int p2), .val (.int p3), .unset, .unset, .unset, .unset, .unset, .unset, .unset] [])) t → Steps p.tables e below (s₁.setTop (entryFrame m #[(.int p1), (.int p2), (.int p3)] maxLocals)) t := fun t k => castTop (own_ef_law m p1 p2 p3) k
  have hN := own_n hnn
  have hM := own_nat hN
  obtain ⟨T1, h1, k1, X1, e1, E1, A1, st1⟩ := newP X0 hx hZ (hw _ (List.mem_of_getElem? (i := 1) rfl)) e0 (g := (mkF m 9 #[.val (.int p1), .val (.int p2), .val (.int p3), .val (.int nn), .unset, .unset, .unset, .unset, .unset, .unset] [(.int nn)])) rfl (hb hby at_9) rfl hM.1 (cap := 5) hM.2 (by decide) (by decide) (by decide)
  obtain ⟨b1, g1⟩ : ∃ z, z = h0.size := ⟨_, rfl⟩
  rw [← g1] at A1 st1
  have g_b1 : n0 ≤ b1 := Nat.le_trans Z0 (Nat.le_of_eq g1.symm)
  have Z1 := Nat.le_trans Z0 E1.1
  have V1 := Arv.new A1 hM.1
  obtain ⟨T2, h2, X2, e2, E2, A2, D2, -, st2⟩ := newO X1 hx hZ hown (hw _ (List.mem_of_getElem? (i := 2) rfl)) (hw _ (List.mem_of_getElem? (i := 3) rfl)) (hw _ (List.mem_of_getElem? (i := 4) rfl)) e1 (g := (mkF m 13 #[.val (.int p1), .val (.int p2), .val (.int p3), .val (.int nn), .val (.ref b1), .unset, .unset, .unset, .unset, .unset] [])) rfl (hb hby at_13) (by decide) (by decide)
  obtain ⟨b2, g2⟩ : ∃ z, z = h1.size := ⟨_, rfl⟩
  rw [← g2] at A2 D2 st2
  have g_b2 : n0 ≤ b2 := Nat.le_trans Z1 (Nat.le_of_eq g2.symm)
  have nv2_b1 : b1 ≠ b2 := Nat.ne_of_lt (Nat.lt_of_lt_of_le V1.lt (Nat.le_of_eq g2.symm))
  have Vx2_b1 := V1.ext E2
  have Z2 := Nat.le_trans Z1 E2.1
  have F2_fields : Fld Z h2 b2 "com/example/accordant/accordant/FieldReader" "fields" "[B" .null := D2 (Or.inr (hw _ (List.mem_of_getElem? (i := 12) rfl))) (ty := (.array .byte)) (by decide)
  have F2_position : Fld Z h2 b2 "com/example/accordant/accordant/FieldReader" "position" "I" (.int (0 : Int32)) := D2 (Or.inl (hw _ (List.mem_of_getElem? (i := 19) rfl))) (ty := .int) (by decide)
  obtain ⟨_, _, ⟨T3, L3, k3, n3⟩, -, X3, ⟨Lc3, hQ3, l3, y3, z3⟩, st3⟩ := X2.specialBack hx (y := (⟨"com/example/accordant/accordant/FieldReader", "<init>", "([B)V"⟩ : MethodName)) rfl hown (mvT hZ (hw _ (List.mem_of_getElem? (i := 5) rfl))) (mvT hZ (hw _ (List.mem_of_getElem? (i := 6) rfl))) (mvT hZ (hw _ (List.mem_of_getElem? (i := 7) rfl))) (by decide) (backOf (W := 1) (own_rm_init l Z a0 hw [] b2 b1 k1 nn h2 n0 Z2 A2 F2_fields F2_position Vx2_b1 nv2_b1 g_b2) hZ (hw _ (List.mem_of_getElem? (i := 7) rfl)) (hw _ (List.mem_of_getElem? (i := 4) rfl)) (by decide) (by decide)) (g := (mkF m 19 #[.val (.int p1), .val (.int p2), .val (.int p3), .val (.int nn), .val (.ref b1), .unset, .unset, .unset, .unset, .unset] [(.ref b1), (.ref b2), (.ref b2)])) rfl (by rw [hml]; rfl) (Steps.refl _) (a := b2) (argsL := [(.ref b1)]) (rest := [(.ref b2)]) (lenOf own_pd2 rfl) rfl (by show 2 * 0 + _ ≤ _; exact Nat.le_of_eq rfl) (hb hby at_19) (fun _ _ => ⟨rfl, e2, (by decide : 2 + 0 ≤ _), (by decide : 7 + 0 ≤ _)⟩)
  dsimp only [Pt.U, Pt.locs, Pt.cells, Pt.slots] at X3 l3 y3 z3 st3 hQ3
  subst l3 y3 z3
  obtain ⟨rfl, N3q, Oq3, Zq3⟩ := hQ3
  have N3 := Fr.app N0 N3q
  obtain ⟨Eq3, Ff3, Fp3, Vq3, ne3q⟩ := Oq3
  obtain ⟨cq4, kq4, q4a, q4b, q4c⟩ := isOf hZ rfl Eq3
  obtain ⟨_, _, ⟨T4, L4, k4, n4⟩, -, X4, ⟨Lc4, hQ4, l4, y4, z4⟩, st4⟩ := X3.virtualBack hx (y := (⟨"com/example/accordant/accordant/FieldReader", "atEnd", "()Z"⟩ : MethodName)) (z := (⟨"com/example/accordant/accordant/FieldReader", "atEnd", "()Z"⟩ : MethodName)) hown (mvT hZ (hw _ (List.mem_of_getElem? (i := 13) rfl))) (mvT hZ (hw _ (List.mem_of_getElem? (i := 14) rfl))) (notFace_of_selects (args := #[]) (mvT hZ (hw _ (List.mem_of_getElem? (i := 16) rfl)))) (mvT hZ (hw _ (List.mem_of_getElem? (i := 16) rfl))) (mvT hZ (hw _ (List.mem_of_getElem? (i := 15) rfl))) (by decide) (backOf (W := 0) (own_rm_atend l Z a0 hw [] b2 b1 k1 nn (0 : Int32) T3.heap n0 Zq3 ⟨Eq3, Ff3, Fp3, Vq3, ne3q⟩) hZ (hw _ (List.mem_of_getElem? (i := 17) rfl)) (hw _ (List.mem_of_getElem? (i := 4) rfl)) (by decide) (by decide)) q4a q4c (g := (mkF m 26 #[.val (.int p1), .val (.int p2), .val (.int p3), .val (.int nn), .val (.ref b1), .val (.ref b2), .unset, .unset, .unset, .unset] [(.ref b2)])) rfl (by rw [hml]; rfl) (Steps.refl _) (argsL := []) (rest := []) (lenOf own_pd1 rfl) rfl (by show 2 * 0 + _ ≤ _; exact Nat.le_of_eq rfl) (hb hby at_26) (fun _ _ => ⟨rfl, rfl, (by decide : 2 + 0 ≤ _), (by decide : 7 + 0 ≤ _)⟩)
  dsimp only [Pt.U, Pt.locs, Pt.cells, Pt.slots] at X4 l4 y4 z4 st4 hQ4
  subst l4 y4 z4
  obtain ⟨rfl, N4q, e4q⟩ := hQ4
  have N4 := Fr.app N3 N4q
  have E4_b2 : Exa Z T4.heap b2 "com/example/accordant/accordant/FieldReader" := by rw [e4q]; exact Eq3
  have Fs4_b2_fields : Fld Z T4.heap b2 "com/example/accordant/accordant/FieldReader" "fields" "[B" (.ref b1) := by rw [e4q]; exact Ff3
  have Fs4_b2_position : Fld Z T4.heap b2 "com/example/accordant/accordant/FieldReader" "position" "I" (.int (0 : Int32)) := by rw [e4q]; exact Fp3
  have Vs4_b1 : Arv Z T4.heap b1 k1 .byte nn [] (defaultValue .byte) := by rw [e4q]; exact Vq3
  have Z4 : n0 ≤ T4.heap.size := by rw [e4q]; exact Zq3
  obtain ⟨v5, hv5⟩ : ∃ z : Int32, z = (if nn = (0 : Int32) then (1 : Int32) else (0 : Int32)) := ⟨_, rfl⟩
  have hC : 0 ≤ ((0 : Int32)).toInt ∧ ((0 : Int32)).toInt ≤ nn.toInt ∧ nn.toInt ≤ 5 := ⟨by decide, by rw [show (0 : Int32).toInt = 0 from by decide]; exact hN.1, hN.2⟩
  obtain ⟨f6, hf6⟩ : ∃ z : Int32, z = (nn - (0 : Int32)) := ⟨_, rfl⟩
  obtain ⟨k7, hk7⟩ : ∃ z : Int32, z = ((p3 &&& (2147483647 : Int32)) % (f6 + (1 : Int32))) := ⟨_, rfl⟩
  have hK := own_k hf6 hC hk7
  have hq0 : ((0 : Int32)).toInt = ((0 : Int32)).toInt + min k7.toInt 0 := by rw [Int.min_eq_right hK.2.1]; omega
  obtain ⟨T8, L8, X8, N8, Oq8, Zq8, st8⟩ := own_seg1 (p1 := p1) (p2 := p2) (p3 := p3) (n := nn) (c1 := (0 : Int32)) (lf := f6) (kk := k7) (q := (0 : Int32)) X4 hx hZ hw hby hml hown rfl N4 Z4 ⟨E4_b2, Fs4_b2_fields, Fs4_b2_position, Vs4_b1, ne3q⟩ g_b2 (by decide) (by decide) (own_go hK hq0 (by decide) (by decide))
  obtain ⟨s8, hs8⟩ : ∃ z : Int32, z = (if k7 < (1 : Int32) then (0 : Int32) else ((0 : Int32) + (1 : Int32))) := ⟨_, rfl⟩
  rw [← hs8] at Oq8
  have hq1 : s8.toInt = ((0 : Int32)).toInt + min k7.toInt 1 := own_next hK hq0 (by decide) (by decide) hs8 (by decide)
  obtain ⟨Eq8, Ff8, Fp8, Vq8, ne8q⟩ := Oq8
  obtain ⟨T9, L9, X9, N9, Oq9, Zq9, st9⟩ := own_seg2 (p1 := p1) (p2 := p2) (p3 := p3) (n := nn) (c1 := (0 : Int32)) (lf := f6) (kk := k7) (q := s8) X8 hx hZ hw hby hml hown rfl N8 Zq8 ⟨Eq8, Ff8, Fp8, Vq8, ne8q⟩ g_b2 (by decide) (by decide) (own_go hK hq1 (by decide) (by decide))
  obtain ⟨s9, hs9⟩ : ∃ z : Int32, z = (if k7 < (2 : Int32) then s8 else (s8 + (1 : Int32))) := ⟨_, rfl⟩
  rw [← hs9] at Oq9
  have hq2 : s9.toInt = ((0 : Int32)).toInt + min k7.toInt 2 := own_next hK hq1 (by decide) (by decide) hs9 (by decide)
  obtain ⟨Eq9, Ff9, Fp9, Vq9, ne9q⟩ := Oq9
  obtain ⟨T10, L10, X10, N10, Oq10, Zq10, st10⟩ := own_seg3 (p1 := p1) (p2 := p2) (p3 := p3) (n := nn) (c1 := (0 : Int32)) (lf := f6) (kk := k7) (q := s9) X9 hx hZ hw hby hml hown rfl N9 Zq9 ⟨Eq9, Ff9, Fp9, Vq9, ne9q⟩ g_b2 (by decide) (by decide) (own_go hK hq2 (by decide) (by decide))
  obtain ⟨s10, hs10⟩ : ∃ z : Int32, z = (if k7 < (3 : Int32) then s9 else (s9 + (1 : Int32))) := ⟨_, rfl⟩
  rw [← hs10] at Oq10
  have hq3 : s10.toInt = ((0 : Int32)).toInt + min k7.toInt 3 := own_next hK hq2 (by decide) (by decide) hs10 (by decide)
  obtain ⟨Eq10, Ff10, Fp10, Vq10, ne10q⟩ := Oq10
  obtain ⟨T11, L11, X11, N11, Oq11, Zq11, st11⟩ := own_seg4 (p1 := p1) (p2 := p2) (p3 := p3) (n := nn) (c1 := (0 : Int32)) (lf := f6) (kk := k7) (q := s10) X10 hx hZ hw hby hml hown rfl N10 Zq10 ⟨Eq10, Ff10, Fp10, Vq10, ne10q⟩ g_b2 (by decide) (by decide) (own_go hK hq3 (by decide) (by decide))
  obtain ⟨s11, hs11⟩ : ∃ z : Int32, z = (if k7 < (4 : Int32) then s10 else (s10 + (1 : Int32))) := ⟨_, rfl⟩
  rw [← hs11] at Oq11
  have hq4 : s11.toInt = ((0 : Int32)).toInt + min k7.toInt 4 := own_next hK hq3 (by decide) (by decide) hs11 (by decide)
  obtain ⟨Eq11, Ff11, Fp11, Vq11, ne11q⟩ := Oq11
  obtain ⟨T12, L12, X12, N12, Oq12, Zq12, st12⟩ := own_seg5 (p1 := p1) (p2 := p2) (p3 := p3) (n := nn) (c1 := (0 : Int32)) (lf := f6) (kk := k7) (q := s11) X11 hx hZ hw hby hml hown rfl N11 Zq11 ⟨Eq11, Ff11, Fp11, Vq11, ne11q⟩ g_b2 (by decide) (by decide) (own_go hK hq4 (by decide) (by decide))
  obtain ⟨s12, hs12⟩ : ∃ z : Int32, z = (if k7 < (5 : Int32) then s11 else (s11 + (1 : Int32))) := ⟨_, rfl⟩
  rw [← hs12] at Oq12
  have hq5 : s12.toInt = ((0 : Int32)).toInt + min k7.toInt 5 := own_next hK hq4 (by decide) (by decide) hs12 (by decide)
  obtain ⟨Eq12, Ff12, Fp12, Vq12, ne12q⟩ := Oq12
  have hL := own_last hK hq5
  obtain ⟨cq13, kq13, q13a, q13b, q13c⟩ := isOf hZ rfl Eq12
  obtain ⟨_, _, ⟨T13, L13, k13, n13⟩, -, X13, ⟨Lc13, hQ13, l13, y13, z13⟩, st13⟩ := X12.virtualBack hx (y := (⟨"com/example/accordant/accordant/FieldReader", "atEnd", "()Z"⟩ : MethodName)) (z := (⟨"com/example/accordant/accordant/FieldReader", "atEnd", "()Z"⟩ : MethodName)) hown (mvT hZ (hw _ (List.mem_of_getElem? (i := 13) rfl))) (mvT hZ (hw _ (List.mem_of_getElem? (i := 14) rfl))) (notFace_of_selects (args := #[]) (mvT hZ (hw _ (List.mem_of_getElem? (i := 16) rfl)))) (mvT hZ (hw _ (List.mem_of_getElem? (i := 16) rfl))) (mvT hZ (hw _ (List.mem_of_getElem? (i := 15) rfl))) (by decide) (backOf (W := 0) (own_rm_atend l Z a0 hw [] b2 b1 k1 nn s12 T12.heap n0 Zq12 ⟨Eq12, Ff12, Fp12, Vq12, ne12q⟩) hZ (hw _ (List.mem_of_getElem? (i := 17) rfl)) (hw _ (List.mem_of_getElem? (i := 4) rfl)) (by decide) (by decide)) q13a q13c (g := (mkF m 192 #[.val (.int p1), .val (.int p2), .val (.int p3), .val (.int nn), .val (.ref b1), .val (.ref b2), .val (.int (1 : Int32)), .val (.int ((0 : Int32) + k7)), .val (.int f6), .val (.int k7)] [(.ref b2)])) rfl (by rw [hml]; rfl) (Steps.refl _) (argsL := []) (rest := []) (lenOf own_pd1 rfl) rfl (by show 2 * 0 + _ ≤ _; exact Nat.le_of_eq rfl) (hb hby at_192) (fun _ _ => ⟨rfl, rfl, (by decide : 2 + 0 ≤ _), (by decide : 7 + 0 ≤ _)⟩)
  dsimp only [Pt.U, Pt.locs, Pt.cells, Pt.slots] at X13 l13 y13 z13 st13 hQ13
  subst l13 y13 z13
  obtain ⟨rfl, N13q, e13q⟩ := hQ13
  have N13 := Fr.app N12 N13q
  have E13_b2 : Exa Z T13.heap b2 "com/example/accordant/accordant/FieldReader" := by rw [e13q]; exact Eq12
  have Fs13_b2_fields : Fld Z T13.heap b2 "com/example/accordant/accordant/FieldReader" "fields" "[B" (.ref b1) := by rw [e13q]; exact Ff12
  have Fs13_b2_position : Fld Z T13.heap b2 "com/example/accordant/accordant/FieldReader" "position" "I" (.int s12) := by rw [e13q]; exact Fp12
  have Vs13_b1 : Arv Z T13.heap b1 k1 .byte nn [] (defaultValue .byte) := by rw [e13q]; exact Vq12
  have Z13 : n0 ≤ T13.heap.size := by rw [e13q]; exact Zq12
  obtain ⟨v14, hv14⟩ : ∃ z : Int32, z = (if ((0 : Int32) + k7) = nn then (1 : Int32) else (0 : Int32)) := ⟨_, rfl⟩
  obtain ⟨fs, hr, hrun, hended, hW, hsame⟩ := X13.leave (v := some (.int (1 : Int32))) (fun h => by rw [Bd.returns] at h; cases h)
  refine ⟨_, _, pre0 _ ?_, hrun, hended, _, _, rfl, ?_, ⟨_, rfl⟩, hW, hsame.mono (by decide) (by decide)⟩
  · show Steps p.tables e below (s₁.setTop (mkF m 0 #[.val (.int p1), .val (.int p2), .val (.int p3), .unset, .unset, .unset, .unset, .unset, .unset, .unset] [])) _
    refine XS.iloadN X0.here hx rfl (hb hby at_0) rfl ?_
    show Steps p.tables e below (s₁.setTop (mkF m 1 #[.val (.int p1), .val (.int p2), .val (.int p3), .unset, .unset, .unset, .unset, .unset, .unset, .unset] [(.int p1)])) _
    refine X0.ldcInt hx hown (mvT hZ (hw _ (List.mem_of_getElem? (i := 0) rfl))) (g := (mkF m 1 #[.val (.int p1), .val (.int p2), .val (.int p3), .unset, .unset, .unset, .unset, .unset, .unset, .unset] [(.int p1)])) rfl (hb hby at_1) _ ?_
    show Steps p.tables e below (s₁.setTop (mkF m 3 #[.val (.int p1), .val (.int p2), .val (.int p3), .unset, .unset, .unset, .unset, .unset, .unset, .unset] [(.int (2147483647 : Int32)), (.int p1)])) _
    refine XS.iand X0.here hx rfl (hb hby at_3) rfl ?_
    show Steps p.tables e below (s₁.setTop (mkF m 4 #[.val (.int p1), .val (.int p2), .val (.int p3), .unset, .unset, .unset, .unset, .unset, .unset, .unset] [(.int (p1 &&& (2147483647 : Int32)))])) _
    refine XS.bipush X0.here hx rfl (hb hby at_4) ?_
    show Steps p.tables e below (s₁.setTop (mkF m 6 #[.val (.int p1), .val (.int p2), .val (.int p3), .unset, .unset, .unset, .unset, .unset, .unset, .unset] [(.int (6 : Int32)), (.int (p1 &&& (2147483647 : Int32)))])) _
    refine iremM X0 hx rfl (hb hby at_6) rfl (by decide) ?_
    show Steps p.tables e below (s₁.setTop (mkF m 7 #[.val (.int p1), .val (.int p2), .val (.int p3), .unset, .unset, .unset, .unset, .unset, .unset, .unset] [(.int ((p1 &&& (2147483647 : Int32)) % (6 : Int32)))])) _
    rw [← hnn]
    show Steps p.tables e below (s₁.setTop (mkF m 7 #[.val (.int p1), .val (.int p2), .val (.int p3), .unset, .unset, .unset, .unset, .unset, .unset, .unset] [(.int nn)])) _
    refine XS.istoreN X0.here hx rfl (hb hby at_7) rfl (l' := #[.val (.int p1), .val (.int p2), .val (.int p3), .val (.int nn), .unset, .unset, .unset, .unset, .unset, .unset]) rfl ?_
    show Steps p.tables e below (s₁.setTop (mkF m 8 #[.val (.int p1), .val (.int p2), .val (.int p3), .val (.int nn), .unset, .unset, .unset, .unset, .unset, .unset] [])) _
    refine XS.iloadN X0.here hx rfl (hb hby at_8) rfl ?_
    show Steps p.tables e below (s₁.setTop (mkF m 9 #[.val (.int p1), .val (.int p2), .val (.int p3), .val (.int nn), .unset, .unset, .unset, .unset, .unset, .unset] [(.int nn)])) _
    refine st1 _ ?_
    show Steps p.tables e below (T1.setTop (mkF m 11 #[.val (.int p1), .val (.int p2), .val (.int p3), .val (.int nn), .unset, .unset, .unset, .unset, .unset, .unset] [(.ref b1)])) _
    refine XS.astore X1.here hx rfl (hb hby at_11) rfl rfl (l' := #[.val (.int p1), .val (.int p2), .val (.int p3), .val (.int nn), .val (.ref b1), .unset, .unset, .unset, .unset, .unset]) rfl ?_
    show Steps p.tables e below (T1.setTop (mkF m 13 #[.val (.int p1), .val (.int p2), .val (.int p3), .val (.int nn), .val (.ref b1), .unset, .unset, .unset, .unset, .unset] [])) _
    refine st2 _ ?_
    show Steps p.tables e below (T2.setTop (mkF m 16 #[.val (.int p1), .val (.int p2), .val (.int p3), .val (.int nn), .val (.ref b1), .unset, .unset, .unset, .unset, .unset] [(.ref b2)])) _
    refine XS.dup X2.here hx rfl (hb hby at_16) rfl rfl ?_
    show Steps p.tables e below (T2.setTop (mkF m 17 #[.val (.int p1), .val (.int p2), .val (.int p3), .val (.int nn), .val (.ref b1), .unset, .unset, .unset, .unset, .unset] [(.ref b2), (.ref b2)])) _
    refine XS.aload X2.here hx rfl (hb hby at_17) rfl rfl ?_
    show Steps p.tables e below (T2.setTop (mkF m 19 #[.val (.int p1), .val (.int p2), .val (.int p3), .val (.int nn), .val (.ref b1), .unset, .unset, .unset, .unset, .unset] [(.ref b1), (.ref b2), (.ref b2)])) _
    refine st3.trans ?_
    show Steps p.tables e below (T3.setTop (mkF m 22 #[.val (.int p1), .val (.int p2), .val (.int p3), .val (.int nn), .val (.ref b1), .unset, .unset, .unset, .unset, .unset] [(.ref b2)])) _
    refine XS.astore X3.here hx rfl (hb hby at_22) rfl rfl (l' := #[.val (.int p1), .val (.int p2), .val (.int p3), .val (.int nn), .val (.ref b1), .val (.ref b2), .unset, .unset, .unset, .unset]) rfl ?_
    show Steps p.tables e below (T3.setTop (mkF m 24 #[.val (.int p1), .val (.int p2), .val (.int p3), .val (.int nn), .val (.ref b1), .val (.ref b2), .unset, .unset, .unset, .unset] [])) _
    refine XS.aload X3.here hx rfl (hb hby at_24) rfl rfl ?_
    show Steps p.tables e below (T3.setTop (mkF m 26 #[.val (.int p1), .val (.int p2), .val (.int p3), .val (.int nn), .val (.ref b1), .val (.ref b2), .unset, .unset, .unset, .unset] [(.ref b2)])) _
    refine st4.trans ?_
    show Steps p.tables e below (T4.setTop (mkF m 29 #[.val (.int p1), .val (.int p2), .val (.int p3), .val (.int nn), .val (.ref b1), .val (.ref b2), .unset, .unset, .unset, .unset] [(.int (own_end (0 : Int32) nn))])) _
    refine XS.iloadN X4.here hx rfl (hb hby at_29) rfl ?_
    suffices J30 : Steps p.tables e below (T4.setTop (mkF m 38 #[.val (.int p1), .val (.int p2), .val (.int p3), .val (.int nn), .val (.ref b1), .val (.ref b2), .unset, .unset, .unset, .unset] [(.int v5), (.int (own_end (0 : Int32) nn))])) (T13.setFrames fs) by
      by_cases hc30 : nn = (0 : Int32)
      · rw [hv5, if_pos hc30] at J30
        show Steps p.tables e below (T4.setTop (mkF m 30 #[.val (.int p1), .val (.int p2), .val (.int p3), .val (.int nn), .val (.ref b1), .val (.ref b2), .unset, .unset, .unset, .unset] [(.int nn), (.int (own_end (0 : Int32) nn))])) _
        refine XS.ifNo X4.here hx rfl (hb hby at_30) rfl ((if0 _ _).trans (teq hc30).2) ?_
        show Steps p.tables e below (T4.setTop (mkF m 33 #[.val (.int p1), .val (.int p2), .val (.int p3), .val (.int nn), .val (.ref b1), .val (.ref b2), .unset, .unset, .unset, .unset] [(.int (own_end (0 : Int32) nn))])) _
        refine XS.iconst X4.here hx rfl (hb hby at_33) ?_
        show Steps p.tables e below (T4.setTop (mkF m 34 #[.val (.int p1), .val (.int p2), .val (.int p3), .val (.int nn), .val (.ref b1), .val (.ref b2), .unset, .unset, .unset, .unset] [(.int (1 : Int32)), (.int (own_end (0 : Int32) nn))])) _
        refine XS.goto X4.here hx rfl (pc0 := 34) (pc' := 38) rfl (hb hby at_34) (by decide) (by decide) ?_
        exact J30
      · rw [hv5, if_neg hc30] at J30
        show Steps p.tables e below (T4.setTop (mkF m 30 #[.val (.int p1), .val (.int p2), .val (.int p3), .val (.int nn), .val (.ref b1), .val (.ref b2), .unset, .unset, .unset, .unset] [(.int nn), (.int (own_end (0 : Int32) nn))])) _
        refine XS.ifYes X4.here hx rfl (pc0 := 30) (pc' := 37) rfl (hb hby at_30) rfl ((if0 _ _).trans (feq hc30).2) (by decide) (by decide) ?_
        show Steps p.tables e below (T4.setTop (mkF m 37 #[.val (.int p1), .val (.int p2), .val (.int p3), .val (.int nn), .val (.ref b1), .val (.ref b2), .unset, .unset, .unset, .unset] [(.int (own_end (0 : Int32) nn))])) _
        refine XS.iconst X4.here hx rfl (hb hby at_37) ?_
        exact J30
    show Steps p.tables e below (T4.setTop (mkF m 38 #[.val (.int p1), .val (.int p2), .val (.int p3), .val (.int nn), .val (.ref b1), .val (.ref b2), .unset, .unset, .unset, .unset] [(.int v5), (.int (own_end (0 : Int32) nn))])) _
    refine XS.icmpNo X4.here hx rfl (hb hby at_38) rfl (teq (by rw [hv5, own_end]; by_cases q : nn = (0 : Int32) <;> simp [q, eq_comm])).2 ?_
    show Steps p.tables e below (T4.setTop (mkF m 41 #[.val (.int p1), .val (.int p2), .val (.int p3), .val (.int nn), .val (.ref b1), .val (.ref b2), .unset, .unset, .unset, .unset] [])) _
    refine XS.iconst X4.here hx rfl (hb hby at_41) ?_
    show Steps p.tables e below (T4.setTop (mkF m 42 #[.val (.int p1), .val (.int p2), .val (.int p3), .val (.int nn), .val (.ref b1), .val (.ref b2), .unset, .unset, .unset, .unset] [(.int (1 : Int32))])) _
    refine XS.goto X4.here hx rfl (pc0 := 42) (pc' := 46) rfl (hb hby at_42) (by decide) (by decide) ?_
    show Steps p.tables e below (T4.setTop (mkF m 46 #[.val (.int p1), .val (.int p2), .val (.int p3), .val (.int nn), .val (.ref b1), .val (.ref b2), .unset, .unset, .unset, .unset] [(.int (1 : Int32))])) _
    refine XS.istore X4.here hx rfl (hb hby at_46) rfl (l' := #[.val (.int p1), .val (.int p2), .val (.int p3), .val (.int nn), .val (.ref b1), .val (.ref b2), .val (.int (1 : Int32)), .unset, .unset, .unset]) rfl ?_
    show Steps p.tables e below (T4.setTop (mkF m 48 #[.val (.int p1), .val (.int p2), .val (.int p3), .val (.int nn), .val (.ref b1), .val (.ref b2), .val (.int (1 : Int32)), .unset, .unset, .unset] [])) _
    refine XS.iconst X4.here hx rfl (hb hby at_48) ?_
    show Steps p.tables e below (T4.setTop (mkF m 49 #[.val (.int p1), .val (.int p2), .val (.int p3), .val (.int nn), .val (.ref b1), .val (.ref b2), .val (.int (1 : Int32)), .unset, .unset, .unset] [(.int (0 : Int32))])) _
    refine XS.istore X4.here hx rfl (hb hby at_49) rfl (l' := #[.val (.int p1), .val (.int p2), .val (.int p3), .val (.int nn), .val (.ref b1), .val (.ref b2), .val (.int (1 : Int32)), .val (.int (0 : Int32)), .unset, .unset]) rfl ?_
    show Steps p.tables e below (T4.setTop (mkF m 51 #[.val (.int p1), .val (.int p2), .val (.int p3), .val (.int nn), .val (.ref b1), .val (.ref b2), .val (.int (1 : Int32)), .val (.int (0 : Int32)), .unset, .unset] [])) _
    refine XS.iloadN X4.here hx rfl (hb hby at_51) rfl ?_
    show Steps p.tables e below (T4.setTop (mkF m 52 #[.val (.int p1), .val (.int p2), .val (.int p3), .val (.int nn), .val (.ref b1), .val (.ref b2), .val (.int (1 : Int32)), .val (.int (0 : Int32)), .unset, .unset] [(.int p2)])) _
    refine XS.iconst X4.here hx rfl (hb hby at_52) ?_
    show Steps p.tables e below (T4.setTop (mkF m 53 #[.val (.int p1), .val (.int p2), .val (.int p3), .val (.int nn), .val (.ref b1), .val (.ref b2), .val (.int (1 : Int32)), .val (.int (0 : Int32)), .unset, .unset] [(.int (1 : Int32)), (.int p2)])) _
    refine XS.iand X4.here hx rfl (hb hby at_53) rfl ?_
    show Steps p.tables e below (T4.setTop (mkF m 54 #[.val (.int p1), .val (.int p2), .val (.int p3), .val (.int nn), .val (.ref b1), .val (.ref b2), .val (.int (1 : Int32)), .val (.int (0 : Int32)), .unset, .unset] [(.int (p2 &&& (1 : Int32)))])) _
    refine XS.ifYes X4.here hx rfl (pc0 := 54) (pc' := 101) rfl (hb hby at_54) rfl ((if0 _ _).trans (teq hf).1) (by decide) (by decide) ?_
    show Steps p.tables e below (T4.setTop (mkF m 101 #[.val (.int p1), .val (.int p2), .val (.int p3), .val (.int nn), .val (.ref b1), .val (.ref b2), .val (.int (1 : Int32)), .val (.int (0 : Int32)), .unset, .unset] [])) _
    refine XS.iloadN X4.here hx rfl (hb hby at_101) rfl ?_
    show Steps p.tables e below (T4.setTop (mkF m 102 #[.val (.int p1), .val (.int p2), .val (.int p3), .val (.int nn), .val (.ref b1), .val (.ref b2), .val (.int (1 : Int32)), .val (.int (0 : Int32)), .unset, .unset] [(.int nn)])) _
    refine XS.iload X4.here hx rfl (hb hby at_102) rfl ?_
    show Steps p.tables e below (T4.setTop (mkF m 104 #[.val (.int p1), .val (.int p2), .val (.int p3), .val (.int nn), .val (.ref b1), .val (.ref b2), .val (.int (1 : Int32)), .val (.int (0 : Int32)), .unset, .unset] [(.int (0 : Int32)), (.int nn)])) _
    refine XS.isub X4.here hx rfl (hb hby at_104) rfl ?_
    show Steps p.tables e below (T4.setTop (mkF m 105 #[.val (.int p1), .val (.int p2), .val (.int p3), .val (.int nn), .val (.ref b1), .val (.ref b2), .val (.int (1 : Int32)), .val (.int (0 : Int32)), .unset, .unset] [(.int (nn - (0 : Int32)))])) _
    rw [← hf6]
    show Steps p.tables e below (T4.setTop (mkF m 105 #[.val (.int p1), .val (.int p2), .val (.int p3), .val (.int nn), .val (.ref b1), .val (.ref b2), .val (.int (1 : Int32)), .val (.int (0 : Int32)), .unset, .unset] [(.int f6)])) _
    refine XS.istore X4.here hx rfl (hb hby at_105) rfl (l' := #[.val (.int p1), .val (.int p2), .val (.int p3), .val (.int nn), .val (.ref b1), .val (.ref b2), .val (.int (1 : Int32)), .val (.int (0 : Int32)), .val (.int f6), .unset]) rfl ?_
    show Steps p.tables e below (T4.setTop (mkF m 107 #[.val (.int p1), .val (.int p2), .val (.int p3), .val (.int nn), .val (.ref b1), .val (.ref b2), .val (.int (1 : Int32)), .val (.int (0 : Int32)), .val (.int f6), .unset] [])) _
    refine XS.iloadN X4.here hx rfl (hb hby at_107) rfl ?_
    show Steps p.tables e below (T4.setTop (mkF m 108 #[.val (.int p1), .val (.int p2), .val (.int p3), .val (.int nn), .val (.ref b1), .val (.ref b2), .val (.int (1 : Int32)), .val (.int (0 : Int32)), .val (.int f6), .unset] [(.int p3)])) _
    refine X4.ldcInt hx hown (mvT hZ (hw _ (List.mem_of_getElem? (i := 0) rfl))) (g := (mkF m 108 #[.val (.int p1), .val (.int p2), .val (.int p3), .val (.int nn), .val (.ref b1), .val (.ref b2), .val (.int (1 : Int32)), .val (.int (0 : Int32)), .val (.int f6), .unset] [(.int p3)])) rfl (hb hby at_108) _ ?_
    show Steps p.tables e below (T4.setTop (mkF m 110 #[.val (.int p1), .val (.int p2), .val (.int p3), .val (.int nn), .val (.ref b1), .val (.ref b2), .val (.int (1 : Int32)), .val (.int (0 : Int32)), .val (.int f6), .unset] [(.int (2147483647 : Int32)), (.int p3)])) _
    refine XS.iand X4.here hx rfl (hb hby at_110) rfl ?_
    show Steps p.tables e below (T4.setTop (mkF m 111 #[.val (.int p1), .val (.int p2), .val (.int p3), .val (.int nn), .val (.ref b1), .val (.ref b2), .val (.int (1 : Int32)), .val (.int (0 : Int32)), .val (.int f6), .unset] [(.int (p3 &&& (2147483647 : Int32)))])) _
    refine XS.iload X4.here hx rfl (hb hby at_111) rfl ?_
    show Steps p.tables e below (T4.setTop (mkF m 113 #[.val (.int p1), .val (.int p2), .val (.int p3), .val (.int nn), .val (.ref b1), .val (.ref b2), .val (.int (1 : Int32)), .val (.int (0 : Int32)), .val (.int f6), .unset] [(.int f6), (.int (p3 &&& (2147483647 : Int32)))])) _
    refine XS.iconst X4.here hx rfl (hb hby at_113) ?_
    show Steps p.tables e below (T4.setTop (mkF m 114 #[.val (.int p1), .val (.int p2), .val (.int p3), .val (.int nn), .val (.ref b1), .val (.ref b2), .val (.int (1 : Int32)), .val (.int (0 : Int32)), .val (.int f6), .unset] [(.int (1 : Int32)), (.int f6), (.int (p3 &&& (2147483647 : Int32)))])) _
    refine XS.iadd X4.here hx rfl (hb hby at_114) rfl ?_
    show Steps p.tables e below (T4.setTop (mkF m 115 #[.val (.int p1), .val (.int p2), .val (.int p3), .val (.int nn), .val (.ref b1), .val (.ref b2), .val (.int (1 : Int32)), .val (.int (0 : Int32)), .val (.int f6), .unset] [(.int (f6 + (1 : Int32))), (.int (p3 &&& (2147483647 : Int32)))])) _
    refine iremM X4 hx rfl (hb hby at_115) rfl (own_nz hf6 hC) ?_
    show Steps p.tables e below (T4.setTop (mkF m 116 #[.val (.int p1), .val (.int p2), .val (.int p3), .val (.int nn), .val (.ref b1), .val (.ref b2), .val (.int (1 : Int32)), .val (.int (0 : Int32)), .val (.int f6), .unset] [(.int ((p3 &&& (2147483647 : Int32)) % (f6 + (1 : Int32))))])) _
    rw [← hk7]
    show Steps p.tables e below (T4.setTop (mkF m 116 #[.val (.int p1), .val (.int p2), .val (.int p3), .val (.int nn), .val (.ref b1), .val (.ref b2), .val (.int (1 : Int32)), .val (.int (0 : Int32)), .val (.int f6), .unset] [(.int k7)])) _
    refine XS.istore X4.here hx rfl (hb hby at_116) rfl (l' := #[.val (.int p1), .val (.int p2), .val (.int p3), .val (.int nn), .val (.ref b1), .val (.ref b2), .val (.int (1 : Int32)), .val (.int (0 : Int32)), .val (.int f6), .val (.int k7)]) rfl ?_
    show Steps p.tables e below (T4.setTop (mkF m 118 #[.val (.int p1), .val (.int p2), .val (.int p3), .val (.int nn), .val (.ref b1), .val (.ref b2), .val (.int (1 : Int32)), .val (.int (0 : Int32)), .val (.int f6), .val (.int k7)] [])) _
    refine st8 _ ?_
    show Steps p.tables e below (T8.setTop (mkF m 130 #[.val (.int p1), .val (.int p2), .val (.int p3), .val (.int nn), .val (.ref b1), .val (.ref b2), .val (.int (1 : Int32)), .val (.int (0 : Int32)), .val (.int f6), .val (.int k7)] [])) _
    refine st9 _ ?_
    show Steps p.tables e below (T9.setTop (mkF m 142 #[.val (.int p1), .val (.int p2), .val (.int p3), .val (.int nn), .val (.ref b1), .val (.ref b2), .val (.int (1 : Int32)), .val (.int (0 : Int32)), .val (.int f6), .val (.int k7)] [])) _
    refine st10 _ ?_
    show Steps p.tables e below (T10.setTop (mkF m 154 #[.val (.int p1), .val (.int p2), .val (.int p3), .val (.int nn), .val (.ref b1), .val (.ref b2), .val (.int (1 : Int32)), .val (.int (0 : Int32)), .val (.int f6), .val (.int k7)] [])) _
    refine st11 _ ?_
    show Steps p.tables e below (T11.setTop (mkF m 166 #[.val (.int p1), .val (.int p2), .val (.int p3), .val (.int nn), .val (.ref b1), .val (.ref b2), .val (.int (1 : Int32)), .val (.int (0 : Int32)), .val (.int f6), .val (.int k7)] [])) _
    refine st12 _ ?_
    show Steps p.tables e below (T12.setTop (mkF m 178 #[.val (.int p1), .val (.int p2), .val (.int p3), .val (.int nn), .val (.ref b1), .val (.ref b2), .val (.int (1 : Int32)), .val (.int (0 : Int32)), .val (.int f6), .val (.int k7)] [])) _
    refine XS.iload X12.here hx rfl (hb hby at_178) rfl ?_
    show Steps p.tables e below (T12.setTop (mkF m 180 #[.val (.int p1), .val (.int p2), .val (.int p3), .val (.int nn), .val (.ref b1), .val (.ref b2), .val (.int (1 : Int32)), .val (.int (0 : Int32)), .val (.int f6), .val (.int k7)] [(.int (0 : Int32))])) _
    refine XS.iload X12.here hx rfl (hb hby at_180) rfl ?_
    show Steps p.tables e below (T12.setTop (mkF m 182 #[.val (.int p1), .val (.int p2), .val (.int p3), .val (.int nn), .val (.ref b1), .val (.ref b2), .val (.int (1 : Int32)), .val (.int (0 : Int32)), .val (.int f6), .val (.int k7)] [(.int k7), (.int (0 : Int32))])) _
    refine XS.iadd X12.here hx rfl (hb hby at_182) rfl ?_
    show Steps p.tables e below (T12.setTop (mkF m 183 #[.val (.int p1), .val (.int p2), .val (.int p3), .val (.int nn), .val (.ref b1), .val (.ref b2), .val (.int (1 : Int32)), .val (.int (0 : Int32)), .val (.int f6), .val (.int k7)] [(.int ((0 : Int32) + k7))])) _
    refine XS.istore X12.here hx rfl (hb hby at_183) rfl (l' := #[.val (.int p1), .val (.int p2), .val (.int p3), .val (.int nn), .val (.ref b1), .val (.ref b2), .val (.int (1 : Int32)), .val (.int ((0 : Int32) + k7)), .val (.int f6), .val (.int k7)]) rfl ?_
    show Steps p.tables e below (T12.setTop (mkF m 185 #[.val (.int p1), .val (.int p2), .val (.int p3), .val (.int nn), .val (.ref b1), .val (.ref b2), .val (.int (1 : Int32)), .val (.int ((0 : Int32) + k7)), .val (.int f6), .val (.int k7)] [])) _
    refine XS.iload X12.here hx rfl (hb hby at_185) rfl ?_
    show Steps p.tables e below (T12.setTop (mkF m 187 #[.val (.int p1), .val (.int p2), .val (.int p3), .val (.int nn), .val (.ref b1), .val (.ref b2), .val (.int (1 : Int32)), .val (.int ((0 : Int32) + k7)), .val (.int f6), .val (.int k7)] [(.int (1 : Int32))])) _
    refine XS.ifNo X12.here hx rfl (hb hby at_187) rfl ((if0 _ _).trans (feq (by decide)).1) ?_
    show Steps p.tables e below (T12.setTop (mkF m 190 #[.val (.int p1), .val (.int p2), .val (.int p3), .val (.int nn), .val (.ref b1), .val (.ref b2), .val (.int (1 : Int32)), .val (.int ((0 : Int32) + k7)), .val (.int f6), .val (.int k7)] [])) _
    refine XS.aload X12.here hx rfl (hb hby at_190) rfl rfl ?_
    show Steps p.tables e below (T12.setTop (mkF m 192 #[.val (.int p1), .val (.int p2), .val (.int p3), .val (.int nn), .val (.ref b1), .val (.ref b2), .val (.int (1 : Int32)), .val (.int ((0 : Int32) + k7)), .val (.int f6), .val (.int k7)] [(.ref b2)])) _
    refine st13.trans ?_
    show Steps p.tables e below (T13.setTop (mkF m 195 #[.val (.int p1), .val (.int p2), .val (.int p3), .val (.int nn), .val (.ref b1), .val (.ref b2), .val (.int (1 : Int32)), .val (.int ((0 : Int32) + k7)), .val (.int f6), .val (.int k7)] [(.int (own_end s12 nn))])) _
    refine XS.iload X13.here hx rfl (hb hby at_195) rfl ?_
    show Steps p.tables e below (T13.setTop (mkF m 197 #[.val (.int p1), .val (.int p2), .val (.int p3), .val (.int nn), .val (.ref b1), .val (.ref b2), .val (.int (1 : Int32)), .val (.int ((0 : Int32) + k7)), .val (.int f6), .val (.int k7)] [(.int ((0 : Int32) + k7)), (.int (own_end s12 nn))])) _
    refine XS.iloadN X13.here hx rfl (hb hby at_197) rfl ?_
    suffices J198 : Steps p.tables e below (T13.setTop (mkF m 206 #[.val (.int p1), .val (.int p2), .val (.int p3), .val (.int nn), .val (.ref b1), .val (.ref b2), .val (.int (1 : Int32)), .val (.int ((0 : Int32) + k7)), .val (.int f6), .val (.int k7)] [(.int v14), (.int (own_end s12 nn))])) (T13.setFrames fs) by
      by_cases hc198 : ((0 : Int32) + k7) = nn
      · rw [hv14, if_pos hc198] at J198
        show Steps p.tables e below (T13.setTop (mkF m 198 #[.val (.int p1), .val (.int p2), .val (.int p3), .val (.int nn), .val (.ref b1), .val (.ref b2), .val (.int (1 : Int32)), .val (.int ((0 : Int32) + k7)), .val (.int f6), .val (.int k7)] [(.int nn), (.int ((0 : Int32) + k7)), (.int (own_end s12 nn))])) _
        refine XS.icmpNo X13.here hx rfl (hb hby at_198) rfl (teq hc198).2 ?_
        show Steps p.tables e below (T13.setTop (mkF m 201 #[.val (.int p1), .val (.int p2), .val (.int p3), .val (.int nn), .val (.ref b1), .val (.ref b2), .val (.int (1 : Int32)), .val (.int ((0 : Int32) + k7)), .val (.int f6), .val (.int k7)] [(.int (own_end s12 nn))])) _
        refine XS.iconst X13.here hx rfl (hb hby at_201) ?_
        show Steps p.tables e below (T13.setTop (mkF m 202 #[.val (.int p1), .val (.int p2), .val (.int p3), .val (.int nn), .val (.ref b1), .val (.ref b2), .val (.int (1 : Int32)), .val (.int ((0 : Int32) + k7)), .val (.int f6), .val (.int k7)] [(.int (1 : Int32)), (.int (own_end s12 nn))])) _
        refine XS.goto X13.here hx rfl (pc0 := 202) (pc' := 206) rfl (hb hby at_202) (by decide) (by decide) ?_
        exact J198
      · rw [hv14, if_neg hc198] at J198
        show Steps p.tables e below (T13.setTop (mkF m 198 #[.val (.int p1), .val (.int p2), .val (.int p3), .val (.int nn), .val (.ref b1), .val (.ref b2), .val (.int (1 : Int32)), .val (.int ((0 : Int32) + k7)), .val (.int f6), .val (.int k7)] [(.int nn), (.int ((0 : Int32) + k7)), (.int (own_end s12 nn))])) _
        refine XS.icmpYes X13.here hx rfl (pc0 := 198) (pc' := 205) rfl (hb hby at_198) rfl (feq hc198).2 (by decide) (by decide) ?_
        show Steps p.tables e below (T13.setTop (mkF m 205 #[.val (.int p1), .val (.int p2), .val (.int p3), .val (.int nn), .val (.ref b1), .val (.ref b2), .val (.int (1 : Int32)), .val (.int ((0 : Int32) + k7)), .val (.int f6), .val (.int k7)] [(.int (own_end s12 nn))])) _
        refine XS.iconst X13.here hx rfl (hb hby at_205) ?_
        exact J198
    show Steps p.tables e below (T13.setTop (mkF m 206 #[.val (.int p1), .val (.int p2), .val (.int p3), .val (.int nn), .val (.ref b1), .val (.ref b2), .val (.int (1 : Int32)), .val (.int ((0 : Int32) + k7)), .val (.int f6), .val (.int k7)] [(.int v14), (.int (own_end s12 nn))])) _
    refine XS.icmpNo X13.here hx rfl (hb hby at_206) rfl (teq (by rw [hv14, own_end, hL])).2 ?_
    show Steps p.tables e below (T13.setTop (mkF m 209 #[.val (.int p1), .val (.int p2), .val (.int p3), .val (.int nn), .val (.ref b1), .val (.ref b2), .val (.int (1 : Int32)), .val (.int ((0 : Int32) + k7)), .val (.int f6), .val (.int k7)] [])) _
    refine XS.iconst X13.here hx rfl (hb hby at_209) ?_
    show Steps p.tables e below (T13.setTop (mkF m 210 #[.val (.int p1), .val (.int p2), .val (.int p3), .val (.int nn), .val (.ref b1), .val (.ref b2), .val (.int (1 : Int32)), .val (.int ((0 : Int32) + k7)), .val (.int f6), .val (.int k7)] [(.int (1 : Int32))])) _
    refine XS.goto X13.here hx rfl (pc0 := 210) (pc' := 214) rfl (hb hby at_210) (by decide) (by decide) ?_
    show Steps p.tables e below (T13.setTop (mkF m 214 #[.val (.int p1), .val (.int p2), .val (.int p3), .val (.int nn), .val (.ref b1), .val (.ref b2), .val (.int (1 : Int32)), .val (.int ((0 : Int32) + k7)), .val (.int f6), .val (.int k7)] [(.int (1 : Int32))])) _
    refine XS.istore X13.here hx rfl (hb hby at_214) rfl (l' := #[.val (.int p1), .val (.int p2), .val (.int p3), .val (.int nn), .val (.ref b1), .val (.ref b2), .val (.int (1 : Int32)), .val (.int ((0 : Int32) + k7)), .val (.int f6), .val (.int k7)]) rfl ?_
    show Steps p.tables e below (T13.setTop (mkF m 216 #[.val (.int p1), .val (.int p2), .val (.int p3), .val (.int nn), .val (.ref b1), .val (.ref b2), .val (.int (1 : Int32)), .val (.int ((0 : Int32) + k7)), .val (.int f6), .val (.int k7)] [])) _
    refine XS.iload X13.here hx rfl (hb hby at_216) rfl ?_
    show Steps p.tables e below (T13.setTop (mkF m 218 #[.val (.int p1), .val (.int p2), .val (.int p3), .val (.int nn), .val (.ref b1), .val (.ref b2), .val (.int (1 : Int32)), .val (.int ((0 : Int32) + k7)), .val (.int f6), .val (.int k7)] [(.int (1 : Int32))])) _
    exact retN X13 hx (t := .boolean) Bd.returns (by simp) (hb hby at_218) hr
  · show own_Q_law Z p1 p2 p3  h0 n0 _ T13.heap _
    exact ⟨rfl, N13⟩
set_option maxRecDepth 65536 in
set_option maxHeartbeats 40000000 in
theorem own_rm_law_b (l : Launch) (Z : State) (a0 : Array Value) (hw : ∀ d ∈ tables_1, d.before a0 Z = true) (ws : List Jvm.Cond) (p1 : Int32) (p2 : Int32) (p3 : Int32)  (h0 : Heap) (n0 : Nat) (Z0 : n0 ≤ h0.size) (nn : Int32) (hnn : nn = ((p1 &&& (2147483647 : Int32)) % (6 : Int32))) (hf : ¬ ((p2 &&& (1 : Int32)) = (0 : Int32))) (hfo : nn < (4 : Int32)) :
    MetFree l x (head1 (Jvm.Cond.code x code maxLocals ret :: ws) room_1) (fun a U => a = #[(.int p1), (.int p2), (.int p3)] ∧ Z.Warmed39 U.vm ∧ U.heap = h0) (fun _ _ _ _ _ => True) (fun _ U o U' => ∃ v L, o = .returned v ∧ own_Q_law Z p1 p2 p3  h0 n0 v U'.heap L ∧ FrameEnd U o U' L room_1.cells room_1.slots) := by
  refine MetFree.of_bodySF (plainFor_of_name own_pn1) hisR ?_
  intro p e s m args below meth c s₁ Bd hml0 hP hK
  obtain ⟨rfl, hZ, hh⟩ := hP
  have hx := Bd.exec
  have hby := Bd.bytes
  have hml : c.maxLocals = 10 := hml0
  have hown : s.vm.findClass "com/example/accordant/accordant/FieldReaderAtEndPinLaw" = some m.cls := findClass_of_methodNamed Bd.named
  have hnm := (name_of_methodNamed Bd.named Bd.method).1
  have X0 : Stand p l e room_1 s m #[(.int p1), (.int p2), (.int p3)] below meth c s₁ [] 0 0 := Stand.of_body Bd
  have e0 : s₁.heap = h0 := by rw [← hh, Bd.state]; rfl
  have N0 := Fr.nil n0
  have pre0 : ∀ t, Steps p.tables e below (s₁.setTop (mkF m 0 #[.val (.int p1), .val (.int p2), .val (.int p3), .unset, .unset, .unset, .unset, .unset, .unset, .unset] [])) t → Steps p.tables e below (s₁.setTop (entryFrame m #[(.int p1), (.int p2), (.int p3)] maxLocals)) t := fun t k => castTop (own_ef_law m p1 p2 p3) k
  have hN := own_n hnn
  have hM := own_nat hN
  obtain ⟨T1, h1, k1, X1, e1, E1, A1, st1⟩ := newP X0 hx hZ (hw _ (List.mem_of_getElem? (i := 1) rfl)) e0 (g := (mkF m 9 #[.val (.int p1), .val (.int p2), .val (.int p3), .val (.int nn), .unset, .unset, .unset, .unset, .unset, .unset] [(.int nn)])) rfl (hb hby at_9) rfl hM.1 (cap := 5) hM.2 (by decide) (by decide) (by decide)
  obtain ⟨b1, g1⟩ : ∃ z, z = h0.size := ⟨_, rfl⟩
  rw [← g1] at A1 st1
  have g_b1 : n0 ≤ b1 := Nat.le_trans Z0 (Nat.le_of_eq g1.symm)
  have Z1 := Nat.le_trans Z0 E1.1
  have V1 := Arv.new A1 hM.1
  obtain ⟨T2, h2, X2, e2, E2, A2, D2, -, st2⟩ := newO X1 hx hZ hown (hw _ (List.mem_of_getElem? (i := 2) rfl)) (hw _ (List.mem_of_getElem? (i := 3) rfl)) (hw _ (List.mem_of_getElem? (i := 4) rfl)) e1 (g := (mkF m 13 #[.val (.int p1), .val (.int p2), .val (.int p3), .val (.int nn), .val (.ref b1), .unset, .unset, .unset, .unset, .unset] [])) rfl (hb hby at_13) (by decide) (by decide)
  obtain ⟨b2, g2⟩ : ∃ z, z = h1.size := ⟨_, rfl⟩
  rw [← g2] at A2 D2 st2
  have g_b2 : n0 ≤ b2 := Nat.le_trans Z1 (Nat.le_of_eq g2.symm)
  have nv2_b1 : b1 ≠ b2 := Nat.ne_of_lt (Nat.lt_of_lt_of_le V1.lt (Nat.le_of_eq g2.symm))
  have Vx2_b1 := V1.ext E2
  have Z2 := Nat.le_trans Z1 E2.1
  have F2_fields : Fld Z h2 b2 "com/example/accordant/accordant/FieldReader" "fields" "[B" .null := D2 (Or.inr (hw _ (List.mem_of_getElem? (i := 12) rfl))) (ty := (.array .byte)) (by decide)
  have F2_position : Fld Z h2 b2 "com/example/accordant/accordant/FieldReader" "position" "I" (.int (0 : Int32)) := D2 (Or.inl (hw _ (List.mem_of_getElem? (i := 19) rfl))) (ty := .int) (by decide)
  obtain ⟨_, _, ⟨T3, L3, k3, n3⟩, -, X3, ⟨Lc3, hQ3, l3, y3, z3⟩, st3⟩ := X2.specialBack hx (y := (⟨"com/example/accordant/accordant/FieldReader", "<init>", "([B)V"⟩ : MethodName)) rfl hown (mvT hZ (hw _ (List.mem_of_getElem? (i := 5) rfl))) (mvT hZ (hw _ (List.mem_of_getElem? (i := 6) rfl))) (mvT hZ (hw _ (List.mem_of_getElem? (i := 7) rfl))) (by decide) (backOf (W := 1) (own_rm_init l Z a0 hw [] b2 b1 k1 nn h2 n0 Z2 A2 F2_fields F2_position Vx2_b1 nv2_b1 g_b2) hZ (hw _ (List.mem_of_getElem? (i := 7) rfl)) (hw _ (List.mem_of_getElem? (i := 4) rfl)) (by decide) (by decide)) (g := (mkF m 19 #[.val (.int p1), .val (.int p2), .val (.int p3), .val (.int nn), .val (.ref b1), .unset, .unset, .unset, .unset, .unset] [(.ref b1), (.ref b2), (.ref b2)])) rfl (by rw [hml]; rfl) (Steps.refl _) (a := b2) (argsL := [(.ref b1)]) (rest := [(.ref b2)]) (lenOf own_pd2 rfl) rfl (by show 2 * 0 + _ ≤ _; exact Nat.le_of_eq rfl) (hb hby at_19) (fun _ _ => ⟨rfl, e2, (by decide : 2 + 0 ≤ _), (by decide : 7 + 0 ≤ _)⟩)
  dsimp only [Pt.U, Pt.locs, Pt.cells, Pt.slots] at X3 l3 y3 z3 st3 hQ3
  subst l3 y3 z3
  obtain ⟨rfl, N3q, Oq3, Zq3⟩ := hQ3
  have N3 := Fr.app N0 N3q
  obtain ⟨Eq3, Ff3, Fp3, Vq3, ne3q⟩ := Oq3
  obtain ⟨cq4, kq4, q4a, q4b, q4c⟩ := isOf hZ rfl Eq3
  obtain ⟨_, _, ⟨T4, L4, k4, n4⟩, -, X4, ⟨Lc4, hQ4, l4, y4, z4⟩, st4⟩ := X3.virtualBack hx (y := (⟨"com/example/accordant/accordant/FieldReader", "atEnd", "()Z"⟩ : MethodName)) (z := (⟨"com/example/accordant/accordant/FieldReader", "atEnd", "()Z"⟩ : MethodName)) hown (mvT hZ (hw _ (List.mem_of_getElem? (i := 13) rfl))) (mvT hZ (hw _ (List.mem_of_getElem? (i := 14) rfl))) (notFace_of_selects (args := #[]) (mvT hZ (hw _ (List.mem_of_getElem? (i := 16) rfl)))) (mvT hZ (hw _ (List.mem_of_getElem? (i := 16) rfl))) (mvT hZ (hw _ (List.mem_of_getElem? (i := 15) rfl))) (by decide) (backOf (W := 0) (own_rm_atend l Z a0 hw [] b2 b1 k1 nn (0 : Int32) T3.heap n0 Zq3 ⟨Eq3, Ff3, Fp3, Vq3, ne3q⟩) hZ (hw _ (List.mem_of_getElem? (i := 17) rfl)) (hw _ (List.mem_of_getElem? (i := 4) rfl)) (by decide) (by decide)) q4a q4c (g := (mkF m 26 #[.val (.int p1), .val (.int p2), .val (.int p3), .val (.int nn), .val (.ref b1), .val (.ref b2), .unset, .unset, .unset, .unset] [(.ref b2)])) rfl (by rw [hml]; rfl) (Steps.refl _) (argsL := []) (rest := []) (lenOf own_pd1 rfl) rfl (by show 2 * 0 + _ ≤ _; exact Nat.le_of_eq rfl) (hb hby at_26) (fun _ _ => ⟨rfl, rfl, (by decide : 2 + 0 ≤ _), (by decide : 7 + 0 ≤ _)⟩)
  dsimp only [Pt.U, Pt.locs, Pt.cells, Pt.slots] at X4 l4 y4 z4 st4 hQ4
  subst l4 y4 z4
  obtain ⟨rfl, N4q, e4q⟩ := hQ4
  have N4 := Fr.app N3 N4q
  have E4_b2 : Exa Z T4.heap b2 "com/example/accordant/accordant/FieldReader" := by rw [e4q]; exact Eq3
  have Fs4_b2_fields : Fld Z T4.heap b2 "com/example/accordant/accordant/FieldReader" "fields" "[B" (.ref b1) := by rw [e4q]; exact Ff3
  have Fs4_b2_position : Fld Z T4.heap b2 "com/example/accordant/accordant/FieldReader" "position" "I" (.int (0 : Int32)) := by rw [e4q]; exact Fp3
  have Vs4_b1 : Arv Z T4.heap b1 k1 .byte nn [] (defaultValue .byte) := by rw [e4q]; exact Vq3
  have Z4 : n0 ≤ T4.heap.size := by rw [e4q]; exact Zq3
  obtain ⟨v5, hv5⟩ : ∃ z : Int32, z = (if nn = (0 : Int32) then (1 : Int32) else (0 : Int32)) := ⟨_, rfl⟩
  have hC : 0 ≤ ((0 : Int32)).toInt ∧ ((0 : Int32)).toInt ≤ nn.toInt ∧ nn.toInt ≤ 5 := ⟨by decide, by rw [show (0 : Int32).toInt = 0 from by decide]; exact hN.1, hN.2⟩
  obtain ⟨f6, hf6⟩ : ∃ z : Int32, z = (nn - (0 : Int32)) := ⟨_, rfl⟩
  obtain ⟨k7, hk7⟩ : ∃ z : Int32, z = ((p3 &&& (2147483647 : Int32)) % (f6 + (1 : Int32))) := ⟨_, rfl⟩
  have hK := own_k hf6 hC hk7
  have hq0 : ((0 : Int32)).toInt = ((0 : Int32)).toInt + min k7.toInt 0 := by rw [Int.min_eq_right hK.2.1]; omega
  obtain ⟨T8, L8, X8, N8, Oq8, Zq8, st8⟩ := own_seg1 (p1 := p1) (p2 := p2) (p3 := p3) (n := nn) (c1 := (0 : Int32)) (lf := f6) (kk := k7) (q := (0 : Int32)) X4 hx hZ hw hby hml hown rfl N4 Z4 ⟨E4_b2, Fs4_b2_fields, Fs4_b2_position, Vs4_b1, ne3q⟩ g_b2 (by decide) (by decide) (own_go hK hq0 (by decide) (by decide))
  obtain ⟨s8, hs8⟩ : ∃ z : Int32, z = (if k7 < (1 : Int32) then (0 : Int32) else ((0 : Int32) + (1 : Int32))) := ⟨_, rfl⟩
  rw [← hs8] at Oq8
  have hq1 : s8.toInt = ((0 : Int32)).toInt + min k7.toInt 1 := own_next hK hq0 (by decide) (by decide) hs8 (by decide)
  obtain ⟨Eq8, Ff8, Fp8, Vq8, ne8q⟩ := Oq8
  obtain ⟨T9, L9, X9, N9, Oq9, Zq9, st9⟩ := own_seg2 (p1 := p1) (p2 := p2) (p3 := p3) (n := nn) (c1 := (0 : Int32)) (lf := f6) (kk := k7) (q := s8) X8 hx hZ hw hby hml hown rfl N8 Zq8 ⟨Eq8, Ff8, Fp8, Vq8, ne8q⟩ g_b2 (by decide) (by decide) (own_go hK hq1 (by decide) (by decide))
  obtain ⟨s9, hs9⟩ : ∃ z : Int32, z = (if k7 < (2 : Int32) then s8 else (s8 + (1 : Int32))) := ⟨_, rfl⟩
  rw [← hs9] at Oq9
  have hq2 : s9.toInt = ((0 : Int32)).toInt + min k7.toInt 2 := own_next hK hq1 (by decide) (by decide) hs9 (by decide)
  obtain ⟨Eq9, Ff9, Fp9, Vq9, ne9q⟩ := Oq9
  obtain ⟨T10, L10, X10, N10, Oq10, Zq10, st10⟩ := own_seg3 (p1 := p1) (p2 := p2) (p3 := p3) (n := nn) (c1 := (0 : Int32)) (lf := f6) (kk := k7) (q := s9) X9 hx hZ hw hby hml hown rfl N9 Zq9 ⟨Eq9, Ff9, Fp9, Vq9, ne9q⟩ g_b2 (by decide) (by decide) (own_go hK hq2 (by decide) (by decide))
  obtain ⟨s10, hs10⟩ : ∃ z : Int32, z = (if k7 < (3 : Int32) then s9 else (s9 + (1 : Int32))) := ⟨_, rfl⟩
  rw [← hs10] at Oq10
  have hq3 : s10.toInt = ((0 : Int32)).toInt + min k7.toInt 3 := own_next hK hq2 (by decide) (by decide) hs10 (by decide)
  obtain ⟨Eq10, Ff10, Fp10, Vq10, ne10q⟩ := Oq10
  obtain ⟨T11, L11, X11, N11, Oq11, Zq11, st11⟩ := own_seg4 (p1 := p1) (p2 := p2) (p3 := p3) (n := nn) (c1 := (0 : Int32)) (lf := f6) (kk := k7) (q := s10) X10 hx hZ hw hby hml hown rfl N10 Zq10 ⟨Eq10, Ff10, Fp10, Vq10, ne10q⟩ g_b2 (by decide) (by decide) (own_go hK hq3 (by decide) (by decide))
  obtain ⟨s11, hs11⟩ : ∃ z : Int32, z = (if k7 < (4 : Int32) then s10 else (s10 + (1 : Int32))) := ⟨_, rfl⟩
  rw [← hs11] at Oq11
  have hq4 : s11.toInt = ((0 : Int32)).toInt + min k7.toInt 4 := own_next hK hq3 (by decide) (by decide) hs11 (by decide)
  obtain ⟨Eq11, Ff11, Fp11, Vq11, ne11q⟩ := Oq11
  obtain ⟨T12, L12, X12, N12, Oq12, Zq12, st12⟩ := own_seg5 (p1 := p1) (p2 := p2) (p3 := p3) (n := nn) (c1 := (0 : Int32)) (lf := f6) (kk := k7) (q := s11) X11 hx hZ hw hby hml hown rfl N11 Zq11 ⟨Eq11, Ff11, Fp11, Vq11, ne11q⟩ g_b2 (by decide) (by decide) (own_go hK hq4 (by decide) (by decide))
  obtain ⟨s12, hs12⟩ : ∃ z : Int32, z = (if k7 < (5 : Int32) then s11 else (s11 + (1 : Int32))) := ⟨_, rfl⟩
  rw [← hs12] at Oq12
  have hq5 : s12.toInt = ((0 : Int32)).toInt + min k7.toInt 5 := own_next hK hq4 (by decide) (by decide) hs12 (by decide)
  obtain ⟨Eq12, Ff12, Fp12, Vq12, ne12q⟩ := Oq12
  have hL := own_last hK hq5
  obtain ⟨cq13, kq13, q13a, q13b, q13c⟩ := isOf hZ rfl Eq12
  obtain ⟨_, _, ⟨T13, L13, k13, n13⟩, -, X13, ⟨Lc13, hQ13, l13, y13, z13⟩, st13⟩ := X12.virtualBack hx (y := (⟨"com/example/accordant/accordant/FieldReader", "atEnd", "()Z"⟩ : MethodName)) (z := (⟨"com/example/accordant/accordant/FieldReader", "atEnd", "()Z"⟩ : MethodName)) hown (mvT hZ (hw _ (List.mem_of_getElem? (i := 13) rfl))) (mvT hZ (hw _ (List.mem_of_getElem? (i := 14) rfl))) (notFace_of_selects (args := #[]) (mvT hZ (hw _ (List.mem_of_getElem? (i := 16) rfl)))) (mvT hZ (hw _ (List.mem_of_getElem? (i := 16) rfl))) (mvT hZ (hw _ (List.mem_of_getElem? (i := 15) rfl))) (by decide) (backOf (W := 0) (own_rm_atend l Z a0 hw [] b2 b1 k1 nn s12 T12.heap n0 Zq12 ⟨Eq12, Ff12, Fp12, Vq12, ne12q⟩) hZ (hw _ (List.mem_of_getElem? (i := 17) rfl)) (hw _ (List.mem_of_getElem? (i := 4) rfl)) (by decide) (by decide)) q13a q13c (g := (mkF m 192 #[.val (.int p1), .val (.int p2), .val (.int p3), .val (.int nn), .val (.ref b1), .val (.ref b2), .val (.int (1 : Int32)), .val (.int ((0 : Int32) + k7)), .val (.int f6), .val (.int k7)] [(.ref b2)])) rfl (by rw [hml]; rfl) (Steps.refl _) (argsL := []) (rest := []) (lenOf own_pd1 rfl) rfl (by show 2 * 0 + _ ≤ _; exact Nat.le_of_eq rfl) (hb hby at_192) (fun _ _ => ⟨rfl, rfl, (by decide : 2 + 0 ≤ _), (by decide : 7 + 0 ≤ _)⟩)
  dsimp only [Pt.U, Pt.locs, Pt.cells, Pt.slots] at X13 l13 y13 z13 st13 hQ13
  subst l13 y13 z13
  obtain ⟨rfl, N13q, e13q⟩ := hQ13
  have N13 := Fr.app N12 N13q
  have E13_b2 : Exa Z T13.heap b2 "com/example/accordant/accordant/FieldReader" := by rw [e13q]; exact Eq12
  have Fs13_b2_fields : Fld Z T13.heap b2 "com/example/accordant/accordant/FieldReader" "fields" "[B" (.ref b1) := by rw [e13q]; exact Ff12
  have Fs13_b2_position : Fld Z T13.heap b2 "com/example/accordant/accordant/FieldReader" "position" "I" (.int s12) := by rw [e13q]; exact Fp12
  have Vs13_b1 : Arv Z T13.heap b1 k1 .byte nn [] (defaultValue .byte) := by rw [e13q]; exact Vq12
  have Z13 : n0 ≤ T13.heap.size := by rw [e13q]; exact Zq12
  obtain ⟨v14, hv14⟩ : ∃ z : Int32, z = (if ((0 : Int32) + k7) = nn then (1 : Int32) else (0 : Int32)) := ⟨_, rfl⟩
  obtain ⟨fs, hr, hrun, hended, hW, hsame⟩ := X13.leave (v := some (.int (1 : Int32))) (fun h => by rw [Bd.returns] at h; cases h)
  refine ⟨_, _, pre0 _ ?_, hrun, hended, _, _, rfl, ?_, ⟨_, rfl⟩, hW, hsame.mono (by decide) (by decide)⟩
  · show Steps p.tables e below (s₁.setTop (mkF m 0 #[.val (.int p1), .val (.int p2), .val (.int p3), .unset, .unset, .unset, .unset, .unset, .unset, .unset] [])) _
    refine XS.iloadN X0.here hx rfl (hb hby at_0) rfl ?_
    show Steps p.tables e below (s₁.setTop (mkF m 1 #[.val (.int p1), .val (.int p2), .val (.int p3), .unset, .unset, .unset, .unset, .unset, .unset, .unset] [(.int p1)])) _
    refine X0.ldcInt hx hown (mvT hZ (hw _ (List.mem_of_getElem? (i := 0) rfl))) (g := (mkF m 1 #[.val (.int p1), .val (.int p2), .val (.int p3), .unset, .unset, .unset, .unset, .unset, .unset, .unset] [(.int p1)])) rfl (hb hby at_1) _ ?_
    show Steps p.tables e below (s₁.setTop (mkF m 3 #[.val (.int p1), .val (.int p2), .val (.int p3), .unset, .unset, .unset, .unset, .unset, .unset, .unset] [(.int (2147483647 : Int32)), (.int p1)])) _
    refine XS.iand X0.here hx rfl (hb hby at_3) rfl ?_
    show Steps p.tables e below (s₁.setTop (mkF m 4 #[.val (.int p1), .val (.int p2), .val (.int p3), .unset, .unset, .unset, .unset, .unset, .unset, .unset] [(.int (p1 &&& (2147483647 : Int32)))])) _
    refine XS.bipush X0.here hx rfl (hb hby at_4) ?_
    show Steps p.tables e below (s₁.setTop (mkF m 6 #[.val (.int p1), .val (.int p2), .val (.int p3), .unset, .unset, .unset, .unset, .unset, .unset, .unset] [(.int (6 : Int32)), (.int (p1 &&& (2147483647 : Int32)))])) _
    refine iremM X0 hx rfl (hb hby at_6) rfl (by decide) ?_
    show Steps p.tables e below (s₁.setTop (mkF m 7 #[.val (.int p1), .val (.int p2), .val (.int p3), .unset, .unset, .unset, .unset, .unset, .unset, .unset] [(.int ((p1 &&& (2147483647 : Int32)) % (6 : Int32)))])) _
    rw [← hnn]
    show Steps p.tables e below (s₁.setTop (mkF m 7 #[.val (.int p1), .val (.int p2), .val (.int p3), .unset, .unset, .unset, .unset, .unset, .unset, .unset] [(.int nn)])) _
    refine XS.istoreN X0.here hx rfl (hb hby at_7) rfl (l' := #[.val (.int p1), .val (.int p2), .val (.int p3), .val (.int nn), .unset, .unset, .unset, .unset, .unset, .unset]) rfl ?_
    show Steps p.tables e below (s₁.setTop (mkF m 8 #[.val (.int p1), .val (.int p2), .val (.int p3), .val (.int nn), .unset, .unset, .unset, .unset, .unset, .unset] [])) _
    refine XS.iloadN X0.here hx rfl (hb hby at_8) rfl ?_
    show Steps p.tables e below (s₁.setTop (mkF m 9 #[.val (.int p1), .val (.int p2), .val (.int p3), .val (.int nn), .unset, .unset, .unset, .unset, .unset, .unset] [(.int nn)])) _
    refine st1 _ ?_
    show Steps p.tables e below (T1.setTop (mkF m 11 #[.val (.int p1), .val (.int p2), .val (.int p3), .val (.int nn), .unset, .unset, .unset, .unset, .unset, .unset] [(.ref b1)])) _
    refine XS.astore X1.here hx rfl (hb hby at_11) rfl rfl (l' := #[.val (.int p1), .val (.int p2), .val (.int p3), .val (.int nn), .val (.ref b1), .unset, .unset, .unset, .unset, .unset]) rfl ?_
    show Steps p.tables e below (T1.setTop (mkF m 13 #[.val (.int p1), .val (.int p2), .val (.int p3), .val (.int nn), .val (.ref b1), .unset, .unset, .unset, .unset, .unset] [])) _
    refine st2 _ ?_
    show Steps p.tables e below (T2.setTop (mkF m 16 #[.val (.int p1), .val (.int p2), .val (.int p3), .val (.int nn), .val (.ref b1), .unset, .unset, .unset, .unset, .unset] [(.ref b2)])) _
    refine XS.dup X2.here hx rfl (hb hby at_16) rfl rfl ?_
    show Steps p.tables e below (T2.setTop (mkF m 17 #[.val (.int p1), .val (.int p2), .val (.int p3), .val (.int nn), .val (.ref b1), .unset, .unset, .unset, .unset, .unset] [(.ref b2), (.ref b2)])) _
    refine XS.aload X2.here hx rfl (hb hby at_17) rfl rfl ?_
    show Steps p.tables e below (T2.setTop (mkF m 19 #[.val (.int p1), .val (.int p2), .val (.int p3), .val (.int nn), .val (.ref b1), .unset, .unset, .unset, .unset, .unset] [(.ref b1), (.ref b2), (.ref b2)])) _
    refine st3.trans ?_
    show Steps p.tables e below (T3.setTop (mkF m 22 #[.val (.int p1), .val (.int p2), .val (.int p3), .val (.int nn), .val (.ref b1), .unset, .unset, .unset, .unset, .unset] [(.ref b2)])) _
    refine XS.astore X3.here hx rfl (hb hby at_22) rfl rfl (l' := #[.val (.int p1), .val (.int p2), .val (.int p3), .val (.int nn), .val (.ref b1), .val (.ref b2), .unset, .unset, .unset, .unset]) rfl ?_
    show Steps p.tables e below (T3.setTop (mkF m 24 #[.val (.int p1), .val (.int p2), .val (.int p3), .val (.int nn), .val (.ref b1), .val (.ref b2), .unset, .unset, .unset, .unset] [])) _
    refine XS.aload X3.here hx rfl (hb hby at_24) rfl rfl ?_
    show Steps p.tables e below (T3.setTop (mkF m 26 #[.val (.int p1), .val (.int p2), .val (.int p3), .val (.int nn), .val (.ref b1), .val (.ref b2), .unset, .unset, .unset, .unset] [(.ref b2)])) _
    refine st4.trans ?_
    show Steps p.tables e below (T4.setTop (mkF m 29 #[.val (.int p1), .val (.int p2), .val (.int p3), .val (.int nn), .val (.ref b1), .val (.ref b2), .unset, .unset, .unset, .unset] [(.int (own_end (0 : Int32) nn))])) _
    refine XS.iloadN X4.here hx rfl (hb hby at_29) rfl ?_
    suffices J30 : Steps p.tables e below (T4.setTop (mkF m 38 #[.val (.int p1), .val (.int p2), .val (.int p3), .val (.int nn), .val (.ref b1), .val (.ref b2), .unset, .unset, .unset, .unset] [(.int v5), (.int (own_end (0 : Int32) nn))])) (T13.setFrames fs) by
      by_cases hc30 : nn = (0 : Int32)
      · rw [hv5, if_pos hc30] at J30
        show Steps p.tables e below (T4.setTop (mkF m 30 #[.val (.int p1), .val (.int p2), .val (.int p3), .val (.int nn), .val (.ref b1), .val (.ref b2), .unset, .unset, .unset, .unset] [(.int nn), (.int (own_end (0 : Int32) nn))])) _
        refine XS.ifNo X4.here hx rfl (hb hby at_30) rfl ((if0 _ _).trans (teq hc30).2) ?_
        show Steps p.tables e below (T4.setTop (mkF m 33 #[.val (.int p1), .val (.int p2), .val (.int p3), .val (.int nn), .val (.ref b1), .val (.ref b2), .unset, .unset, .unset, .unset] [(.int (own_end (0 : Int32) nn))])) _
        refine XS.iconst X4.here hx rfl (hb hby at_33) ?_
        show Steps p.tables e below (T4.setTop (mkF m 34 #[.val (.int p1), .val (.int p2), .val (.int p3), .val (.int nn), .val (.ref b1), .val (.ref b2), .unset, .unset, .unset, .unset] [(.int (1 : Int32)), (.int (own_end (0 : Int32) nn))])) _
        refine XS.goto X4.here hx rfl (pc0 := 34) (pc' := 38) rfl (hb hby at_34) (by decide) (by decide) ?_
        exact J30
      · rw [hv5, if_neg hc30] at J30
        show Steps p.tables e below (T4.setTop (mkF m 30 #[.val (.int p1), .val (.int p2), .val (.int p3), .val (.int nn), .val (.ref b1), .val (.ref b2), .unset, .unset, .unset, .unset] [(.int nn), (.int (own_end (0 : Int32) nn))])) _
        refine XS.ifYes X4.here hx rfl (pc0 := 30) (pc' := 37) rfl (hb hby at_30) rfl ((if0 _ _).trans (feq hc30).2) (by decide) (by decide) ?_
        show Steps p.tables e below (T4.setTop (mkF m 37 #[.val (.int p1), .val (.int p2), .val (.int p3), .val (.int nn), .val (.ref b1), .val (.ref b2), .unset, .unset, .unset, .unset] [(.int (own_end (0 : Int32) nn))])) _
        refine XS.iconst X4.here hx rfl (hb hby at_37) ?_
        exact J30
    show Steps p.tables e below (T4.setTop (mkF m 38 #[.val (.int p1), .val (.int p2), .val (.int p3), .val (.int nn), .val (.ref b1), .val (.ref b2), .unset, .unset, .unset, .unset] [(.int v5), (.int (own_end (0 : Int32) nn))])) _
    refine XS.icmpNo X4.here hx rfl (hb hby at_38) rfl (teq (by rw [hv5, own_end]; by_cases q : nn = (0 : Int32) <;> simp [q, eq_comm])).2 ?_
    show Steps p.tables e below (T4.setTop (mkF m 41 #[.val (.int p1), .val (.int p2), .val (.int p3), .val (.int nn), .val (.ref b1), .val (.ref b2), .unset, .unset, .unset, .unset] [])) _
    refine XS.iconst X4.here hx rfl (hb hby at_41) ?_
    show Steps p.tables e below (T4.setTop (mkF m 42 #[.val (.int p1), .val (.int p2), .val (.int p3), .val (.int nn), .val (.ref b1), .val (.ref b2), .unset, .unset, .unset, .unset] [(.int (1 : Int32))])) _
    refine XS.goto X4.here hx rfl (pc0 := 42) (pc' := 46) rfl (hb hby at_42) (by decide) (by decide) ?_
    show Steps p.tables e below (T4.setTop (mkF m 46 #[.val (.int p1), .val (.int p2), .val (.int p3), .val (.int nn), .val (.ref b1), .val (.ref b2), .unset, .unset, .unset, .unset] [(.int (1 : Int32))])) _
    refine XS.istore X4.here hx rfl (hb hby at_46) rfl (l' := #[.val (.int p1), .val (.int p2), .val (.int p3), .val (.int nn), .val (.ref b1), .val (.ref b2), .val (.int (1 : Int32)), .unset, .unset, .unset]) rfl ?_
    show Steps p.tables e below (T4.setTop (mkF m 48 #[.val (.int p1), .val (.int p2), .val (.int p3), .val (.int nn), .val (.ref b1), .val (.ref b2), .val (.int (1 : Int32)), .unset, .unset, .unset] [])) _
    refine XS.iconst X4.here hx rfl (hb hby at_48) ?_
    show Steps p.tables e below (T4.setTop (mkF m 49 #[.val (.int p1), .val (.int p2), .val (.int p3), .val (.int nn), .val (.ref b1), .val (.ref b2), .val (.int (1 : Int32)), .unset, .unset, .unset] [(.int (0 : Int32))])) _
    refine XS.istore X4.here hx rfl (hb hby at_49) rfl (l' := #[.val (.int p1), .val (.int p2), .val (.int p3), .val (.int nn), .val (.ref b1), .val (.ref b2), .val (.int (1 : Int32)), .val (.int (0 : Int32)), .unset, .unset]) rfl ?_
    show Steps p.tables e below (T4.setTop (mkF m 51 #[.val (.int p1), .val (.int p2), .val (.int p3), .val (.int nn), .val (.ref b1), .val (.ref b2), .val (.int (1 : Int32)), .val (.int (0 : Int32)), .unset, .unset] [])) _
    refine XS.iloadN X4.here hx rfl (hb hby at_51) rfl ?_
    show Steps p.tables e below (T4.setTop (mkF m 52 #[.val (.int p1), .val (.int p2), .val (.int p3), .val (.int nn), .val (.ref b1), .val (.ref b2), .val (.int (1 : Int32)), .val (.int (0 : Int32)), .unset, .unset] [(.int p2)])) _
    refine XS.iconst X4.here hx rfl (hb hby at_52) ?_
    show Steps p.tables e below (T4.setTop (mkF m 53 #[.val (.int p1), .val (.int p2), .val (.int p3), .val (.int nn), .val (.ref b1), .val (.ref b2), .val (.int (1 : Int32)), .val (.int (0 : Int32)), .unset, .unset] [(.int (1 : Int32)), (.int p2)])) _
    refine XS.iand X4.here hx rfl (hb hby at_53) rfl ?_
    show Steps p.tables e below (T4.setTop (mkF m 54 #[.val (.int p1), .val (.int p2), .val (.int p3), .val (.int nn), .val (.ref b1), .val (.ref b2), .val (.int (1 : Int32)), .val (.int (0 : Int32)), .unset, .unset] [(.int (p2 &&& (1 : Int32)))])) _
    refine XS.ifNo X4.here hx rfl (hb hby at_54) rfl ((if0 _ _).trans (feq hf).1) ?_
    show Steps p.tables e below (T4.setTop (mkF m 57 #[.val (.int p1), .val (.int p2), .val (.int p3), .val (.int nn), .val (.ref b1), .val (.ref b2), .val (.int (1 : Int32)), .val (.int (0 : Int32)), .unset, .unset] [])) _
    refine XS.iloadN X4.here hx rfl (hb hby at_57) rfl ?_
    show Steps p.tables e below (T4.setTop (mkF m 58 #[.val (.int p1), .val (.int p2), .val (.int p3), .val (.int nn), .val (.ref b1), .val (.ref b2), .val (.int (1 : Int32)), .val (.int (0 : Int32)), .unset, .unset] [(.int nn)])) _
    refine XS.iconst X4.here hx rfl (hb hby at_58) ?_
    show Steps p.tables e below (T4.setTop (mkF m 59 #[.val (.int p1), .val (.int p2), .val (.int p3), .val (.int nn), .val (.ref b1), .val (.ref b2), .val (.int (1 : Int32)), .val (.int (0 : Int32)), .unset, .unset] [(.int (4 : Int32)), (.int nn)])) _
    refine XS.icmpYes X4.here hx rfl (pc0 := 59) (pc' := 101) rfl (hb hby at_59) rfl (tlt hfo).1 (by decide) (by decide) ?_
    show Steps p.tables e below (T4.setTop (mkF m 101 #[.val (.int p1), .val (.int p2), .val (.int p3), .val (.int nn), .val (.ref b1), .val (.ref b2), .val (.int (1 : Int32)), .val (.int (0 : Int32)), .unset, .unset] [])) _
    refine XS.iloadN X4.here hx rfl (hb hby at_101) rfl ?_
    show Steps p.tables e below (T4.setTop (mkF m 102 #[.val (.int p1), .val (.int p2), .val (.int p3), .val (.int nn), .val (.ref b1), .val (.ref b2), .val (.int (1 : Int32)), .val (.int (0 : Int32)), .unset, .unset] [(.int nn)])) _
    refine XS.iload X4.here hx rfl (hb hby at_102) rfl ?_
    show Steps p.tables e below (T4.setTop (mkF m 104 #[.val (.int p1), .val (.int p2), .val (.int p3), .val (.int nn), .val (.ref b1), .val (.ref b2), .val (.int (1 : Int32)), .val (.int (0 : Int32)), .unset, .unset] [(.int (0 : Int32)), (.int nn)])) _
    refine XS.isub X4.here hx rfl (hb hby at_104) rfl ?_
    show Steps p.tables e below (T4.setTop (mkF m 105 #[.val (.int p1), .val (.int p2), .val (.int p3), .val (.int nn), .val (.ref b1), .val (.ref b2), .val (.int (1 : Int32)), .val (.int (0 : Int32)), .unset, .unset] [(.int (nn - (0 : Int32)))])) _
    rw [← hf6]
    show Steps p.tables e below (T4.setTop (mkF m 105 #[.val (.int p1), .val (.int p2), .val (.int p3), .val (.int nn), .val (.ref b1), .val (.ref b2), .val (.int (1 : Int32)), .val (.int (0 : Int32)), .unset, .unset] [(.int f6)])) _
    refine XS.istore X4.here hx rfl (hb hby at_105) rfl (l' := #[.val (.int p1), .val (.int p2), .val (.int p3), .val (.int nn), .val (.ref b1), .val (.ref b2), .val (.int (1 : Int32)), .val (.int (0 : Int32)), .val (.int f6), .unset]) rfl ?_
    show Steps p.tables e below (T4.setTop (mkF m 107 #[.val (.int p1), .val (.int p2), .val (.int p3), .val (.int nn), .val (.ref b1), .val (.ref b2), .val (.int (1 : Int32)), .val (.int (0 : Int32)), .val (.int f6), .unset] [])) _
    refine XS.iloadN X4.here hx rfl (hb hby at_107) rfl ?_
    show Steps p.tables e below (T4.setTop (mkF m 108 #[.val (.int p1), .val (.int p2), .val (.int p3), .val (.int nn), .val (.ref b1), .val (.ref b2), .val (.int (1 : Int32)), .val (.int (0 : Int32)), .val (.int f6), .unset] [(.int p3)])) _
    refine X4.ldcInt hx hown (mvT hZ (hw _ (List.mem_of_getElem? (i := 0) rfl))) (g := (mkF m 108 #[.val (.int p1), .val (.int p2), .val (.int p3), .val (.int nn), .val (.ref b1), .val (.ref b2), .val (.int (1 : Int32)), .val (.int (0 : Int32)), .val (.int f6), .unset] [(.int p3)])) rfl (hb hby at_108) _ ?_
    show Steps p.tables e below (T4.setTop (mkF m 110 #[.val (.int p1), .val (.int p2), .val (.int p3), .val (.int nn), .val (.ref b1), .val (.ref b2), .val (.int (1 : Int32)), .val (.int (0 : Int32)), .val (.int f6), .unset] [(.int (2147483647 : Int32)), (.int p3)])) _
    refine XS.iand X4.here hx rfl (hb hby at_110) rfl ?_
    show Steps p.tables e below (T4.setTop (mkF m 111 #[.val (.int p1), .val (.int p2), .val (.int p3), .val (.int nn), .val (.ref b1), .val (.ref b2), .val (.int (1 : Int32)), .val (.int (0 : Int32)), .val (.int f6), .unset] [(.int (p3 &&& (2147483647 : Int32)))])) _
    refine XS.iload X4.here hx rfl (hb hby at_111) rfl ?_
    show Steps p.tables e below (T4.setTop (mkF m 113 #[.val (.int p1), .val (.int p2), .val (.int p3), .val (.int nn), .val (.ref b1), .val (.ref b2), .val (.int (1 : Int32)), .val (.int (0 : Int32)), .val (.int f6), .unset] [(.int f6), (.int (p3 &&& (2147483647 : Int32)))])) _
    refine XS.iconst X4.here hx rfl (hb hby at_113) ?_
    show Steps p.tables e below (T4.setTop (mkF m 114 #[.val (.int p1), .val (.int p2), .val (.int p3), .val (.int nn), .val (.ref b1), .val (.ref b2), .val (.int (1 : Int32)), .val (.int (0 : Int32)), .val (.int f6), .unset] [(.int (1 : Int32)), (.int f6), (.int (p3 &&& (2147483647 : Int32)))])) _
    refine XS.iadd X4.here hx rfl (hb hby at_114) rfl ?_
    show Steps p.tables e below (T4.setTop (mkF m 115 #[.val (.int p1), .val (.int p2), .val (.int p3), .val (.int nn), .val (.ref b1), .val (.ref b2), .val (.int (1 : Int32)), .val (.int (0 : Int32)), .val (.int f6), .unset] [(.int (f6 + (1 : Int32))), (.int (p3 &&& (2147483647 : Int32)))])) _
    refine iremM X4 hx rfl (hb hby at_115) rfl (own_nz hf6 hC) ?_
    show Steps p.tables e below (T4.setTop (mkF m 116 #[.val (.int p1), .val (.int p2), .val (.int p3), .val (.int nn), .val (.ref b1), .val (.ref b2), .val (.int (1 : Int32)), .val (.int (0 : Int32)), .val (.int f6), .unset] [(.int ((p3 &&& (2147483647 : Int32)) % (f6 + (1 : Int32))))])) _
    rw [← hk7]
    show Steps p.tables e below (T4.setTop (mkF m 116 #[.val (.int p1), .val (.int p2), .val (.int p3), .val (.int nn), .val (.ref b1), .val (.ref b2), .val (.int (1 : Int32)), .val (.int (0 : Int32)), .val (.int f6), .unset] [(.int k7)])) _
    refine XS.istore X4.here hx rfl (hb hby at_116) rfl (l' := #[.val (.int p1), .val (.int p2), .val (.int p3), .val (.int nn), .val (.ref b1), .val (.ref b2), .val (.int (1 : Int32)), .val (.int (0 : Int32)), .val (.int f6), .val (.int k7)]) rfl ?_
    show Steps p.tables e below (T4.setTop (mkF m 118 #[.val (.int p1), .val (.int p2), .val (.int p3), .val (.int nn), .val (.ref b1), .val (.ref b2), .val (.int (1 : Int32)), .val (.int (0 : Int32)), .val (.int f6), .val (.int k7)] [])) _
    refine st8 _ ?_
    show Steps p.tables e below (T8.setTop (mkF m 130 #[.val (.int p1), .val (.int p2), .val (.int p3), .val (.int nn), .val (.ref b1), .val (.ref b2), .val (.int (1 : Int32)), .val (.int (0 : Int32)), .val (.int f6), .val (.int k7)] [])) _
    refine st9 _ ?_
    show Steps p.tables e below (T9.setTop (mkF m 142 #[.val (.int p1), .val (.int p2), .val (.int p3), .val (.int nn), .val (.ref b1), .val (.ref b2), .val (.int (1 : Int32)), .val (.int (0 : Int32)), .val (.int f6), .val (.int k7)] [])) _
    refine st10 _ ?_
    show Steps p.tables e below (T10.setTop (mkF m 154 #[.val (.int p1), .val (.int p2), .val (.int p3), .val (.int nn), .val (.ref b1), .val (.ref b2), .val (.int (1 : Int32)), .val (.int (0 : Int32)), .val (.int f6), .val (.int k7)] [])) _
    refine st11 _ ?_
    show Steps p.tables e below (T11.setTop (mkF m 166 #[.val (.int p1), .val (.int p2), .val (.int p3), .val (.int nn), .val (.ref b1), .val (.ref b2), .val (.int (1 : Int32)), .val (.int (0 : Int32)), .val (.int f6), .val (.int k7)] [])) _
    refine st12 _ ?_
    show Steps p.tables e below (T12.setTop (mkF m 178 #[.val (.int p1), .val (.int p2), .val (.int p3), .val (.int nn), .val (.ref b1), .val (.ref b2), .val (.int (1 : Int32)), .val (.int (0 : Int32)), .val (.int f6), .val (.int k7)] [])) _
    refine XS.iload X12.here hx rfl (hb hby at_178) rfl ?_
    show Steps p.tables e below (T12.setTop (mkF m 180 #[.val (.int p1), .val (.int p2), .val (.int p3), .val (.int nn), .val (.ref b1), .val (.ref b2), .val (.int (1 : Int32)), .val (.int (0 : Int32)), .val (.int f6), .val (.int k7)] [(.int (0 : Int32))])) _
    refine XS.iload X12.here hx rfl (hb hby at_180) rfl ?_
    show Steps p.tables e below (T12.setTop (mkF m 182 #[.val (.int p1), .val (.int p2), .val (.int p3), .val (.int nn), .val (.ref b1), .val (.ref b2), .val (.int (1 : Int32)), .val (.int (0 : Int32)), .val (.int f6), .val (.int k7)] [(.int k7), (.int (0 : Int32))])) _
    refine XS.iadd X12.here hx rfl (hb hby at_182) rfl ?_
    show Steps p.tables e below (T12.setTop (mkF m 183 #[.val (.int p1), .val (.int p2), .val (.int p3), .val (.int nn), .val (.ref b1), .val (.ref b2), .val (.int (1 : Int32)), .val (.int (0 : Int32)), .val (.int f6), .val (.int k7)] [(.int ((0 : Int32) + k7))])) _
    refine XS.istore X12.here hx rfl (hb hby at_183) rfl (l' := #[.val (.int p1), .val (.int p2), .val (.int p3), .val (.int nn), .val (.ref b1), .val (.ref b2), .val (.int (1 : Int32)), .val (.int ((0 : Int32) + k7)), .val (.int f6), .val (.int k7)]) rfl ?_
    show Steps p.tables e below (T12.setTop (mkF m 185 #[.val (.int p1), .val (.int p2), .val (.int p3), .val (.int nn), .val (.ref b1), .val (.ref b2), .val (.int (1 : Int32)), .val (.int ((0 : Int32) + k7)), .val (.int f6), .val (.int k7)] [])) _
    refine XS.iload X12.here hx rfl (hb hby at_185) rfl ?_
    show Steps p.tables e below (T12.setTop (mkF m 187 #[.val (.int p1), .val (.int p2), .val (.int p3), .val (.int nn), .val (.ref b1), .val (.ref b2), .val (.int (1 : Int32)), .val (.int ((0 : Int32) + k7)), .val (.int f6), .val (.int k7)] [(.int (1 : Int32))])) _
    refine XS.ifNo X12.here hx rfl (hb hby at_187) rfl ((if0 _ _).trans (feq (by decide)).1) ?_
    show Steps p.tables e below (T12.setTop (mkF m 190 #[.val (.int p1), .val (.int p2), .val (.int p3), .val (.int nn), .val (.ref b1), .val (.ref b2), .val (.int (1 : Int32)), .val (.int ((0 : Int32) + k7)), .val (.int f6), .val (.int k7)] [])) _
    refine XS.aload X12.here hx rfl (hb hby at_190) rfl rfl ?_
    show Steps p.tables e below (T12.setTop (mkF m 192 #[.val (.int p1), .val (.int p2), .val (.int p3), .val (.int nn), .val (.ref b1), .val (.ref b2), .val (.int (1 : Int32)), .val (.int ((0 : Int32) + k7)), .val (.int f6), .val (.int k7)] [(.ref b2)])) _
    refine st13.trans ?_
    show Steps p.tables e below (T13.setTop (mkF m 195 #[.val (.int p1), .val (.int p2), .val (.int p3), .val (.int nn), .val (.ref b1), .val (.ref b2), .val (.int (1 : Int32)), .val (.int ((0 : Int32) + k7)), .val (.int f6), .val (.int k7)] [(.int (own_end s12 nn))])) _
    refine XS.iload X13.here hx rfl (hb hby at_195) rfl ?_
    show Steps p.tables e below (T13.setTop (mkF m 197 #[.val (.int p1), .val (.int p2), .val (.int p3), .val (.int nn), .val (.ref b1), .val (.ref b2), .val (.int (1 : Int32)), .val (.int ((0 : Int32) + k7)), .val (.int f6), .val (.int k7)] [(.int ((0 : Int32) + k7)), (.int (own_end s12 nn))])) _
    refine XS.iloadN X13.here hx rfl (hb hby at_197) rfl ?_
    suffices J198 : Steps p.tables e below (T13.setTop (mkF m 206 #[.val (.int p1), .val (.int p2), .val (.int p3), .val (.int nn), .val (.ref b1), .val (.ref b2), .val (.int (1 : Int32)), .val (.int ((0 : Int32) + k7)), .val (.int f6), .val (.int k7)] [(.int v14), (.int (own_end s12 nn))])) (T13.setFrames fs) by
      by_cases hc198 : ((0 : Int32) + k7) = nn
      · rw [hv14, if_pos hc198] at J198
        show Steps p.tables e below (T13.setTop (mkF m 198 #[.val (.int p1), .val (.int p2), .val (.int p3), .val (.int nn), .val (.ref b1), .val (.ref b2), .val (.int (1 : Int32)), .val (.int ((0 : Int32) + k7)), .val (.int f6), .val (.int k7)] [(.int nn), (.int ((0 : Int32) + k7)), (.int (own_end s12 nn))])) _
        refine XS.icmpNo X13.here hx rfl (hb hby at_198) rfl (teq hc198).2 ?_
        show Steps p.tables e below (T13.setTop (mkF m 201 #[.val (.int p1), .val (.int p2), .val (.int p3), .val (.int nn), .val (.ref b1), .val (.ref b2), .val (.int (1 : Int32)), .val (.int ((0 : Int32) + k7)), .val (.int f6), .val (.int k7)] [(.int (own_end s12 nn))])) _
        refine XS.iconst X13.here hx rfl (hb hby at_201) ?_
        show Steps p.tables e below (T13.setTop (mkF m 202 #[.val (.int p1), .val (.int p2), .val (.int p3), .val (.int nn), .val (.ref b1), .val (.ref b2), .val (.int (1 : Int32)), .val (.int ((0 : Int32) + k7)), .val (.int f6), .val (.int k7)] [(.int (1 : Int32)), (.int (own_end s12 nn))])) _
        refine XS.goto X13.here hx rfl (pc0 := 202) (pc' := 206) rfl (hb hby at_202) (by decide) (by decide) ?_
        exact J198
      · rw [hv14, if_neg hc198] at J198
        show Steps p.tables e below (T13.setTop (mkF m 198 #[.val (.int p1), .val (.int p2), .val (.int p3), .val (.int nn), .val (.ref b1), .val (.ref b2), .val (.int (1 : Int32)), .val (.int ((0 : Int32) + k7)), .val (.int f6), .val (.int k7)] [(.int nn), (.int ((0 : Int32) + k7)), (.int (own_end s12 nn))])) _
        refine XS.icmpYes X13.here hx rfl (pc0 := 198) (pc' := 205) rfl (hb hby at_198) rfl (feq hc198).2 (by decide) (by decide) ?_
        show Steps p.tables e below (T13.setTop (mkF m 205 #[.val (.int p1), .val (.int p2), .val (.int p3), .val (.int nn), .val (.ref b1), .val (.ref b2), .val (.int (1 : Int32)), .val (.int ((0 : Int32) + k7)), .val (.int f6), .val (.int k7)] [(.int (own_end s12 nn))])) _
        refine XS.iconst X13.here hx rfl (hb hby at_205) ?_
        exact J198
    show Steps p.tables e below (T13.setTop (mkF m 206 #[.val (.int p1), .val (.int p2), .val (.int p3), .val (.int nn), .val (.ref b1), .val (.ref b2), .val (.int (1 : Int32)), .val (.int ((0 : Int32) + k7)), .val (.int f6), .val (.int k7)] [(.int v14), (.int (own_end s12 nn))])) _
    refine XS.icmpNo X13.here hx rfl (hb hby at_206) rfl (teq (by rw [hv14, own_end, hL])).2 ?_
    show Steps p.tables e below (T13.setTop (mkF m 209 #[.val (.int p1), .val (.int p2), .val (.int p3), .val (.int nn), .val (.ref b1), .val (.ref b2), .val (.int (1 : Int32)), .val (.int ((0 : Int32) + k7)), .val (.int f6), .val (.int k7)] [])) _
    refine XS.iconst X13.here hx rfl (hb hby at_209) ?_
    show Steps p.tables e below (T13.setTop (mkF m 210 #[.val (.int p1), .val (.int p2), .val (.int p3), .val (.int nn), .val (.ref b1), .val (.ref b2), .val (.int (1 : Int32)), .val (.int ((0 : Int32) + k7)), .val (.int f6), .val (.int k7)] [(.int (1 : Int32))])) _
    refine XS.goto X13.here hx rfl (pc0 := 210) (pc' := 214) rfl (hb hby at_210) (by decide) (by decide) ?_
    show Steps p.tables e below (T13.setTop (mkF m 214 #[.val (.int p1), .val (.int p2), .val (.int p3), .val (.int nn), .val (.ref b1), .val (.ref b2), .val (.int (1 : Int32)), .val (.int ((0 : Int32) + k7)), .val (.int f6), .val (.int k7)] [(.int (1 : Int32))])) _
    refine XS.istore X13.here hx rfl (hb hby at_214) rfl (l' := #[.val (.int p1), .val (.int p2), .val (.int p3), .val (.int nn), .val (.ref b1), .val (.ref b2), .val (.int (1 : Int32)), .val (.int ((0 : Int32) + k7)), .val (.int f6), .val (.int k7)]) rfl ?_
    show Steps p.tables e below (T13.setTop (mkF m 216 #[.val (.int p1), .val (.int p2), .val (.int p3), .val (.int nn), .val (.ref b1), .val (.ref b2), .val (.int (1 : Int32)), .val (.int ((0 : Int32) + k7)), .val (.int f6), .val (.int k7)] [])) _
    refine XS.iload X13.here hx rfl (hb hby at_216) rfl ?_
    show Steps p.tables e below (T13.setTop (mkF m 218 #[.val (.int p1), .val (.int p2), .val (.int p3), .val (.int nn), .val (.ref b1), .val (.ref b2), .val (.int (1 : Int32)), .val (.int ((0 : Int32) + k7)), .val (.int f6), .val (.int k7)] [(.int (1 : Int32))])) _
    exact retN X13 hx (t := .boolean) Bd.returns (by simp) (hb hby at_218) hr
  · show own_Q_law Z p1 p2 p3  h0 n0 _ T13.heap _
    exact ⟨rfl, N13⟩
theorem own_pd3 : parseMethodDescriptor "()I" = some ⟨[], some .int⟩ := by decide +kernel
set_option maxRecDepth 65536 in
set_option maxHeartbeats 40000000 in
theorem own_rm_law_c (l : Launch) (Z : State) (a0 : Array Value) (hw : ∀ d ∈ tables_1, d.before a0 Z = true) (ws : List Jvm.Cond) (p1 : Int32) (p2 : Int32) (p3 : Int32)  (h0 : Heap) (n0 : Nat) (Z0 : n0 ≤ h0.size) (nn : Int32) (hnn : nn = ((p1 &&& (2147483647 : Int32)) % (6 : Int32))) (hf : ¬ ((p2 &&& (1 : Int32)) = (0 : Int32))) (hfo : ¬ (nn < (4 : Int32))) :
    MetFree l x (head1 (Jvm.Cond.code x code maxLocals ret :: ws) room_1) (fun a U => a = #[(.int p1), (.int p2), (.int p3)] ∧ Z.Warmed39 U.vm ∧ U.heap = h0) (fun _ _ _ _ _ => True) (fun _ U o U' => ∃ v L, o = .returned v ∧ own_Q_law Z p1 p2 p3  h0 n0 v U'.heap L ∧ FrameEnd U o U' L room_1.cells room_1.slots) := by
  refine MetFree.of_bodySF (plainFor_of_name own_pn1) hisR ?_
  intro p e s m args below meth c s₁ Bd hml0 hP hK
  obtain ⟨rfl, hZ, hh⟩ := hP
  have hx := Bd.exec
  have hby := Bd.bytes
  have hml : c.maxLocals = 10 := hml0
  have hown : s.vm.findClass "com/example/accordant/accordant/FieldReaderAtEndPinLaw" = some m.cls := findClass_of_methodNamed Bd.named
  have hnm := (name_of_methodNamed Bd.named Bd.method).1
  have X0 : Stand p l e room_1 s m #[(.int p1), (.int p2), (.int p3)] below meth c s₁ [] 0 0 := Stand.of_body Bd
  have e0 : s₁.heap = h0 := by rw [← hh, Bd.state]; rfl
  have N0 := Fr.nil n0
  have pre0 : ∀ t, Steps p.tables e below (s₁.setTop (mkF m 0 #[.val (.int p1), .val (.int p2), .val (.int p3), .unset, .unset, .unset, .unset, .unset, .unset, .unset] [])) t → Steps p.tables e below (s₁.setTop (entryFrame m #[(.int p1), (.int p2), (.int p3)] maxLocals)) t := fun t k => castTop (own_ef_law m p1 p2 p3) k
  have hN := own_n hnn
  have hM := own_nat hN
  obtain ⟨T1, h1, k1, X1, e1, E1, A1, st1⟩ := newP X0 hx hZ (hw _ (List.mem_of_getElem? (i := 1) rfl)) e0 (g := (mkF m 9 #[.val (.int p1), .val (.int p2), .val (.int p3), .val (.int nn), .unset, .unset, .unset, .unset, .unset, .unset] [(.int nn)])) rfl (hb hby at_9) rfl hM.1 (cap := 5) hM.2 (by decide) (by decide) (by decide)
  obtain ⟨b1, g1⟩ : ∃ z, z = h0.size := ⟨_, rfl⟩
  rw [← g1] at A1 st1
  have g_b1 : n0 ≤ b1 := Nat.le_trans Z0 (Nat.le_of_eq g1.symm)
  have Z1 := Nat.le_trans Z0 E1.1
  have V1 := Arv.new A1 hM.1
  obtain ⟨T2, h2, X2, e2, E2, A2, D2, -, st2⟩ := newO X1 hx hZ hown (hw _ (List.mem_of_getElem? (i := 2) rfl)) (hw _ (List.mem_of_getElem? (i := 3) rfl)) (hw _ (List.mem_of_getElem? (i := 4) rfl)) e1 (g := (mkF m 13 #[.val (.int p1), .val (.int p2), .val (.int p3), .val (.int nn), .val (.ref b1), .unset, .unset, .unset, .unset, .unset] [])) rfl (hb hby at_13) (by decide) (by decide)
  obtain ⟨b2, g2⟩ : ∃ z, z = h1.size := ⟨_, rfl⟩
  rw [← g2] at A2 D2 st2
  have g_b2 : n0 ≤ b2 := Nat.le_trans Z1 (Nat.le_of_eq g2.symm)
  have nv2_b1 : b1 ≠ b2 := Nat.ne_of_lt (Nat.lt_of_lt_of_le V1.lt (Nat.le_of_eq g2.symm))
  have Vx2_b1 := V1.ext E2
  have Z2 := Nat.le_trans Z1 E2.1
  have F2_fields : Fld Z h2 b2 "com/example/accordant/accordant/FieldReader" "fields" "[B" .null := D2 (Or.inr (hw _ (List.mem_of_getElem? (i := 12) rfl))) (ty := (.array .byte)) (by decide)
  have F2_position : Fld Z h2 b2 "com/example/accordant/accordant/FieldReader" "position" "I" (.int (0 : Int32)) := D2 (Or.inl (hw _ (List.mem_of_getElem? (i := 19) rfl))) (ty := .int) (by decide)
  obtain ⟨_, _, ⟨T3, L3, k3, n3⟩, -, X3, ⟨Lc3, hQ3, l3, y3, z3⟩, st3⟩ := X2.specialBack hx (y := (⟨"com/example/accordant/accordant/FieldReader", "<init>", "([B)V"⟩ : MethodName)) rfl hown (mvT hZ (hw _ (List.mem_of_getElem? (i := 5) rfl))) (mvT hZ (hw _ (List.mem_of_getElem? (i := 6) rfl))) (mvT hZ (hw _ (List.mem_of_getElem? (i := 7) rfl))) (by decide) (backOf (W := 1) (own_rm_init l Z a0 hw [] b2 b1 k1 nn h2 n0 Z2 A2 F2_fields F2_position Vx2_b1 nv2_b1 g_b2) hZ (hw _ (List.mem_of_getElem? (i := 7) rfl)) (hw _ (List.mem_of_getElem? (i := 4) rfl)) (by decide) (by decide)) (g := (mkF m 19 #[.val (.int p1), .val (.int p2), .val (.int p3), .val (.int nn), .val (.ref b1), .unset, .unset, .unset, .unset, .unset] [(.ref b1), (.ref b2), (.ref b2)])) rfl (by rw [hml]; rfl) (Steps.refl _) (a := b2) (argsL := [(.ref b1)]) (rest := [(.ref b2)]) (lenOf own_pd2 rfl) rfl (by show 2 * 0 + _ ≤ _; exact Nat.le_of_eq rfl) (hb hby at_19) (fun _ _ => ⟨rfl, e2, (by decide : 2 + 0 ≤ _), (by decide : 7 + 0 ≤ _)⟩)
  dsimp only [Pt.U, Pt.locs, Pt.cells, Pt.slots] at X3 l3 y3 z3 st3 hQ3
  subst l3 y3 z3
  obtain ⟨rfl, N3q, Oq3, Zq3⟩ := hQ3
  have N3 := Fr.app N0 N3q
  obtain ⟨Eq3, Ff3, Fp3, Vq3, ne3q⟩ := Oq3
  obtain ⟨cq4, kq4, q4a, q4b, q4c⟩ := isOf hZ rfl Eq3
  obtain ⟨_, _, ⟨T4, L4, k4, n4⟩, -, X4, ⟨Lc4, hQ4, l4, y4, z4⟩, st4⟩ := X3.virtualBack hx (y := (⟨"com/example/accordant/accordant/FieldReader", "atEnd", "()Z"⟩ : MethodName)) (z := (⟨"com/example/accordant/accordant/FieldReader", "atEnd", "()Z"⟩ : MethodName)) hown (mvT hZ (hw _ (List.mem_of_getElem? (i := 13) rfl))) (mvT hZ (hw _ (List.mem_of_getElem? (i := 14) rfl))) (notFace_of_selects (args := #[]) (mvT hZ (hw _ (List.mem_of_getElem? (i := 16) rfl)))) (mvT hZ (hw _ (List.mem_of_getElem? (i := 16) rfl))) (mvT hZ (hw _ (List.mem_of_getElem? (i := 15) rfl))) (by decide) (backOf (W := 0) (own_rm_atend l Z a0 hw [] b2 b1 k1 nn (0 : Int32) T3.heap n0 Zq3 ⟨Eq3, Ff3, Fp3, Vq3, ne3q⟩) hZ (hw _ (List.mem_of_getElem? (i := 17) rfl)) (hw _ (List.mem_of_getElem? (i := 4) rfl)) (by decide) (by decide)) q4a q4c (g := (mkF m 26 #[.val (.int p1), .val (.int p2), .val (.int p3), .val (.int nn), .val (.ref b1), .val (.ref b2), .unset, .unset, .unset, .unset] [(.ref b2)])) rfl (by rw [hml]; rfl) (Steps.refl _) (argsL := []) (rest := []) (lenOf own_pd1 rfl) rfl (by show 2 * 0 + _ ≤ _; exact Nat.le_of_eq rfl) (hb hby at_26) (fun _ _ => ⟨rfl, rfl, (by decide : 2 + 0 ≤ _), (by decide : 7 + 0 ≤ _)⟩)
  dsimp only [Pt.U, Pt.locs, Pt.cells, Pt.slots] at X4 l4 y4 z4 st4 hQ4
  subst l4 y4 z4
  obtain ⟨rfl, N4q, e4q⟩ := hQ4
  have N4 := Fr.app N3 N4q
  have E4_b2 : Exa Z T4.heap b2 "com/example/accordant/accordant/FieldReader" := by rw [e4q]; exact Eq3
  have Fs4_b2_fields : Fld Z T4.heap b2 "com/example/accordant/accordant/FieldReader" "fields" "[B" (.ref b1) := by rw [e4q]; exact Ff3
  have Fs4_b2_position : Fld Z T4.heap b2 "com/example/accordant/accordant/FieldReader" "position" "I" (.int (0 : Int32)) := by rw [e4q]; exact Fp3
  have Vs4_b1 : Arv Z T4.heap b1 k1 .byte nn [] (defaultValue .byte) := by rw [e4q]; exact Vq3
  have Z4 : n0 ≤ T4.heap.size := by rw [e4q]; exact Zq3
  obtain ⟨v5, hv5⟩ : ∃ z : Int32, z = (if nn = (0 : Int32) then (1 : Int32) else (0 : Int32)) := ⟨_, rfl⟩
  have hR := own_four hN.2 hfo
  obtain ⟨cq6, kq6, q6a, q6b, q6c⟩ := isOf hZ rfl E4_b2
  obtain ⟨_, _, ⟨T6, L6, k6, n6⟩, -, X6, ⟨Lc6, hQ6, l6, y6, z6⟩, st6⟩ := X4.virtualBack hx (y := (⟨"com/example/accordant/accordant/FieldReader", "readInt", "()I"⟩ : MethodName)) (z := (⟨"com/example/accordant/accordant/FieldReader", "readInt", "()I"⟩ : MethodName)) hown (mvT hZ (hw _ (List.mem_of_getElem? (i := 29) rfl))) (mvT hZ (hw _ (List.mem_of_getElem? (i := 30) rfl))) (notFace_of_selects (args := #[]) (mvT hZ (hw _ (List.mem_of_getElem? (i := 32) rfl)))) (mvT hZ (hw _ (List.mem_of_getElem? (i := 32) rfl))) (mvT hZ (hw _ (List.mem_of_getElem? (i := 31) rfl))) (by decide) (backOf (W := 0) (own_rm_rint l Z a0 hw [] b2 b1 k1 nn T4.heap n0 Z4 ⟨E4_b2, Fs4_b2_fields, Fs4_b2_position, Vs4_b1, ne3q⟩ g_b2 hR) hZ (hw _ (List.mem_of_getElem? (i := 33) rfl)) (hw _ (List.mem_of_getElem? (i := 4) rfl)) (by decide) (by decide)) q6a q6c (g := (mkF m 64 #[.val (.int p1), .val (.int p2), .val (.int p3), .val (.int nn), .val (.ref b1), .val (.ref b2), .val (.int (1 : Int32)), .val (.int (0 : Int32)), .unset, .unset] [(.ref b2)])) rfl (by rw [hml]; rfl) (Steps.refl _) (argsL := []) (rest := []) (lenOf own_pd3 rfl) rfl (by show 2 * 0 + _ ≤ _; exact Nat.le_of_eq rfl) (hb hby at_64) (fun _ _ => ⟨rfl, rfl, (by decide : 2 + 0 ≤ _), (by decide : 7 + 0 ≤ _)⟩)
  dsimp only [Pt.U, Pt.locs, Pt.cells, Pt.slots] at X6 l6 y6 z6 st6 hQ6
  subst l6 y6 z6
  obtain ⟨rfl, N6q, Oq6, Zq6⟩ := hQ6
  have N6 := Fr.app N4 N6q
  obtain ⟨Eq6, Ff6, Fp6, Vq6, ne6q⟩ := Oq6
  obtain ⟨u7, hu7⟩ : ∃ z : Int32, z = ((((((0 : Int32) &&& (255 : Int32)) <<< ((24 : Int32) &&& 31)) ||| (((0 : Int32) &&& (255 : Int32)) <<< ((16 : Int32) &&& 31))) ||| (((0 : Int32) &&& (255 : Int32)) <<< ((8 : Int32) &&& 31))) ||| ((0 : Int32) &&& (255 : Int32))) := ⟨_, rfl⟩
  rw [← hu7] at st6
  obtain ⟨cq8, kq8, q8a, q8b, q8c⟩ := isOf hZ rfl Eq6
  obtain ⟨_, _, ⟨T8, L8, k8, n8⟩, -, X8, ⟨Lc8, hQ8, l8, y8, z8⟩, st8⟩ := X6.virtualBack hx (y := (⟨"com/example/accordant/accordant/FieldReader", "atEnd", "()Z"⟩ : MethodName)) (z := (⟨"com/example/accordant/accordant/FieldReader", "atEnd", "()Z"⟩ : MethodName)) hown (mvT hZ (hw _ (List.mem_of_getElem? (i := 13) rfl))) (mvT hZ (hw _ (List.mem_of_getElem? (i := 14) rfl))) (notFace_of_selects (args := #[]) (mvT hZ (hw _ (List.mem_of_getElem? (i := 16) rfl)))) (mvT hZ (hw _ (List.mem_of_getElem? (i := 16) rfl))) (mvT hZ (hw _ (List.mem_of_getElem? (i := 15) rfl))) (by decide) (backOf (W := 0) (own_rm_atend l Z a0 hw [] b2 b1 k1 nn (4 : Int32) T6.heap n0 Zq6 ⟨Eq6, Ff6, Fp6, Vq6, ne6q⟩) hZ (hw _ (List.mem_of_getElem? (i := 17) rfl)) (hw _ (List.mem_of_getElem? (i := 4) rfl)) (by decide) (by decide)) q8a q8c (g := (mkF m 78 #[.val (.int p1), .val (.int p2), .val (.int p3), .val (.int nn), .val (.ref b1), .val (.ref b2), .val (.int (1 : Int32)), .val (.int (4 : Int32)), .unset, .unset] [(.ref b2)])) rfl (by rw [hml]; rfl) (Steps.refl _) (argsL := []) (rest := []) (lenOf own_pd1 rfl) rfl (by show 2 * 0 + _ ≤ _; exact Nat.le_of_eq rfl) (hb hby at_78) (fun _ _ => ⟨rfl, rfl, (by decide : 2 + 0 ≤ _), (by decide : 7 + 0 ≤ _)⟩)
  dsimp only [Pt.U, Pt.locs, Pt.cells, Pt.slots] at X8 l8 y8 z8 st8 hQ8
  subst l8 y8 z8
  obtain ⟨rfl, N8q, e8q⟩ := hQ8
  have N8 := Fr.app N6 N8q
  have E8_b2 : Exa Z T8.heap b2 "com/example/accordant/accordant/FieldReader" := by rw [e8q]; exact Eq6
  have Fs8_b2_fields : Fld Z T8.heap b2 "com/example/accordant/accordant/FieldReader" "fields" "[B" (.ref b1) := by rw [e8q]; exact Ff6
  have Fs8_b2_position : Fld Z T8.heap b2 "com/example/accordant/accordant/FieldReader" "position" "I" (.int (4 : Int32)) := by rw [e8q]; exact Fp6
  have Vs8_b1 : Arv Z T8.heap b1 k1 .byte nn [] (defaultValue .byte) := by rw [e8q]; exact Vq6
  have Z8 : n0 ≤ T8.heap.size := by rw [e8q]; exact Zq6
  obtain ⟨v9, hv9⟩ : ∃ z : Int32, z = (if nn = (4 : Int32) then (1 : Int32) else (0 : Int32)) := ⟨_, rfl⟩
  have hC : 0 ≤ ((4 : Int32)).toInt ∧ ((4 : Int32)).toInt ≤ nn.toInt ∧ nn.toInt ≤ 5 := ⟨by decide, by rw [show (4 : Int32).toInt = 4 from by decide]; exact hR.2.2, hN.2⟩
  obtain ⟨f10, hf10⟩ : ∃ z : Int32, z = (nn - (4 : Int32)) := ⟨_, rfl⟩
  obtain ⟨k11, hk11⟩ : ∃ z : Int32, z = ((p3 &&& (2147483647 : Int32)) % (f10 + (1 : Int32))) := ⟨_, rfl⟩
  have hK := own_k hf10 hC hk11
  have hq0 : ((4 : Int32)).toInt = ((4 : Int32)).toInt + min k11.toInt 0 := by rw [Int.min_eq_right hK.2.1]; omega
  obtain ⟨T12, L12, X12, N12, Oq12, Zq12, st12⟩ := own_seg1 (p1 := p1) (p2 := p2) (p3 := p3) (n := nn) (c1 := (4 : Int32)) (lf := f10) (kk := k11) (q := (4 : Int32)) X8 hx hZ hw hby hml hown rfl N8 Z8 ⟨E8_b2, Fs8_b2_fields, Fs8_b2_position, Vs8_b1, ne6q⟩ g_b2 (by decide) (by decide) (own_go hK hq0 (by decide) (by decide))
  obtain ⟨s12, hs12⟩ : ∃ z : Int32, z = (if k11 < (1 : Int32) then (4 : Int32) else ((4 : Int32) + (1 : Int32))) := ⟨_, rfl⟩
  rw [← hs12] at Oq12
  have hq1 : s12.toInt = ((4 : Int32)).toInt + min k11.toInt 1 := own_next hK hq0 (by decide) (by decide) hs12 (by decide)
  obtain ⟨Eq12, Ff12, Fp12, Vq12, ne12q⟩ := Oq12
  obtain ⟨T13, L13, X13, N13, Oq13, Zq13, st13⟩ := own_seg2 (p1 := p1) (p2 := p2) (p3 := p3) (n := nn) (c1 := (4 : Int32)) (lf := f10) (kk := k11) (q := s12) X12 hx hZ hw hby hml hown rfl N12 Zq12 ⟨Eq12, Ff12, Fp12, Vq12, ne12q⟩ g_b2 (by decide) (by decide) (own_go hK hq1 (by decide) (by decide))
  obtain ⟨s13, hs13⟩ : ∃ z : Int32, z = (if k11 < (2 : Int32) then s12 else (s12 + (1 : Int32))) := ⟨_, rfl⟩
  rw [← hs13] at Oq13
  have hq2 : s13.toInt = ((4 : Int32)).toInt + min k11.toInt 2 := own_next hK hq1 (by decide) (by decide) hs13 (by decide)
  obtain ⟨Eq13, Ff13, Fp13, Vq13, ne13q⟩ := Oq13
  obtain ⟨T14, L14, X14, N14, Oq14, Zq14, st14⟩ := own_seg3 (p1 := p1) (p2 := p2) (p3 := p3) (n := nn) (c1 := (4 : Int32)) (lf := f10) (kk := k11) (q := s13) X13 hx hZ hw hby hml hown rfl N13 Zq13 ⟨Eq13, Ff13, Fp13, Vq13, ne13q⟩ g_b2 (by decide) (by decide) (own_go hK hq2 (by decide) (by decide))
  obtain ⟨s14, hs14⟩ : ∃ z : Int32, z = (if k11 < (3 : Int32) then s13 else (s13 + (1 : Int32))) := ⟨_, rfl⟩
  rw [← hs14] at Oq14
  have hq3 : s14.toInt = ((4 : Int32)).toInt + min k11.toInt 3 := own_next hK hq2 (by decide) (by decide) hs14 (by decide)
  obtain ⟨Eq14, Ff14, Fp14, Vq14, ne14q⟩ := Oq14
  obtain ⟨T15, L15, X15, N15, Oq15, Zq15, st15⟩ := own_seg4 (p1 := p1) (p2 := p2) (p3 := p3) (n := nn) (c1 := (4 : Int32)) (lf := f10) (kk := k11) (q := s14) X14 hx hZ hw hby hml hown rfl N14 Zq14 ⟨Eq14, Ff14, Fp14, Vq14, ne14q⟩ g_b2 (by decide) (by decide) (own_go hK hq3 (by decide) (by decide))
  obtain ⟨s15, hs15⟩ : ∃ z : Int32, z = (if k11 < (4 : Int32) then s14 else (s14 + (1 : Int32))) := ⟨_, rfl⟩
  rw [← hs15] at Oq15
  have hq4 : s15.toInt = ((4 : Int32)).toInt + min k11.toInt 4 := own_next hK hq3 (by decide) (by decide) hs15 (by decide)
  obtain ⟨Eq15, Ff15, Fp15, Vq15, ne15q⟩ := Oq15
  obtain ⟨T16, L16, X16, N16, Oq16, Zq16, st16⟩ := own_seg5 (p1 := p1) (p2 := p2) (p3 := p3) (n := nn) (c1 := (4 : Int32)) (lf := f10) (kk := k11) (q := s15) X15 hx hZ hw hby hml hown rfl N15 Zq15 ⟨Eq15, Ff15, Fp15, Vq15, ne15q⟩ g_b2 (by decide) (by decide) (own_go hK hq4 (by decide) (by decide))
  obtain ⟨s16, hs16⟩ : ∃ z : Int32, z = (if k11 < (5 : Int32) then s15 else (s15 + (1 : Int32))) := ⟨_, rfl⟩
  rw [← hs16] at Oq16
  have hq5 : s16.toInt = ((4 : Int32)).toInt + min k11.toInt 5 := own_next hK hq4 (by decide) (by decide) hs16 (by decide)
  obtain ⟨Eq16, Ff16, Fp16, Vq16, ne16q⟩ := Oq16
  have hL := own_last hK hq5
  obtain ⟨cq17, kq17, q17a, q17b, q17c⟩ := isOf hZ rfl Eq16
  obtain ⟨_, _, ⟨T17, L17, k17, n17⟩, -, X17, ⟨Lc17, hQ17, l17, y17, z17⟩, st17⟩ := X16.virtualBack hx (y := (⟨"com/example/accordant/accordant/FieldReader", "atEnd", "()Z"⟩ : MethodName)) (z := (⟨"com/example/accordant/accordant/FieldReader", "atEnd", "()Z"⟩ : MethodName)) hown (mvT hZ (hw _ (List.mem_of_getElem? (i := 13) rfl))) (mvT hZ (hw _ (List.mem_of_getElem? (i := 14) rfl))) (notFace_of_selects (args := #[]) (mvT hZ (hw _ (List.mem_of_getElem? (i := 16) rfl)))) (mvT hZ (hw _ (List.mem_of_getElem? (i := 16) rfl))) (mvT hZ (hw _ (List.mem_of_getElem? (i := 15) rfl))) (by decide) (backOf (W := 0) (own_rm_atend l Z a0 hw [] b2 b1 k1 nn s16 T16.heap n0 Zq16 ⟨Eq16, Ff16, Fp16, Vq16, ne16q⟩) hZ (hw _ (List.mem_of_getElem? (i := 17) rfl)) (hw _ (List.mem_of_getElem? (i := 4) rfl)) (by decide) (by decide)) q17a q17c (g := (mkF m 192 #[.val (.int p1), .val (.int p2), .val (.int p3), .val (.int nn), .val (.ref b1), .val (.ref b2), .val (.int (1 : Int32)), .val (.int ((4 : Int32) + k11)), .val (.int f10), .val (.int k11)] [(.ref b2)])) rfl (by rw [hml]; rfl) (Steps.refl _) (argsL := []) (rest := []) (lenOf own_pd1 rfl) rfl (by show 2 * 0 + _ ≤ _; exact Nat.le_of_eq rfl) (hb hby at_192) (fun _ _ => ⟨rfl, rfl, (by decide : 2 + 0 ≤ _), (by decide : 7 + 0 ≤ _)⟩)
  dsimp only [Pt.U, Pt.locs, Pt.cells, Pt.slots] at X17 l17 y17 z17 st17 hQ17
  subst l17 y17 z17
  obtain ⟨rfl, N17q, e17q⟩ := hQ17
  have N17 := Fr.app N16 N17q
  have E17_b2 : Exa Z T17.heap b2 "com/example/accordant/accordant/FieldReader" := by rw [e17q]; exact Eq16
  have Fs17_b2_fields : Fld Z T17.heap b2 "com/example/accordant/accordant/FieldReader" "fields" "[B" (.ref b1) := by rw [e17q]; exact Ff16
  have Fs17_b2_position : Fld Z T17.heap b2 "com/example/accordant/accordant/FieldReader" "position" "I" (.int s16) := by rw [e17q]; exact Fp16
  have Vs17_b1 : Arv Z T17.heap b1 k1 .byte nn [] (defaultValue .byte) := by rw [e17q]; exact Vq16
  have Z17 : n0 ≤ T17.heap.size := by rw [e17q]; exact Zq16
  obtain ⟨v18, hv18⟩ : ∃ z : Int32, z = (if ((4 : Int32) + k11) = nn then (1 : Int32) else (0 : Int32)) := ⟨_, rfl⟩
  obtain ⟨fs, hr, hrun, hended, hW, hsame⟩ := X17.leave (v := some (.int (1 : Int32))) (fun h => by rw [Bd.returns] at h; cases h)
  refine ⟨_, _, pre0 _ ?_, hrun, hended, _, _, rfl, ?_, ⟨_, rfl⟩, hW, hsame.mono (by decide) (by decide)⟩
  · show Steps p.tables e below (s₁.setTop (mkF m 0 #[.val (.int p1), .val (.int p2), .val (.int p3), .unset, .unset, .unset, .unset, .unset, .unset, .unset] [])) _
    refine XS.iloadN X0.here hx rfl (hb hby at_0) rfl ?_
    show Steps p.tables e below (s₁.setTop (mkF m 1 #[.val (.int p1), .val (.int p2), .val (.int p3), .unset, .unset, .unset, .unset, .unset, .unset, .unset] [(.int p1)])) _
    refine X0.ldcInt hx hown (mvT hZ (hw _ (List.mem_of_getElem? (i := 0) rfl))) (g := (mkF m 1 #[.val (.int p1), .val (.int p2), .val (.int p3), .unset, .unset, .unset, .unset, .unset, .unset, .unset] [(.int p1)])) rfl (hb hby at_1) _ ?_
    show Steps p.tables e below (s₁.setTop (mkF m 3 #[.val (.int p1), .val (.int p2), .val (.int p3), .unset, .unset, .unset, .unset, .unset, .unset, .unset] [(.int (2147483647 : Int32)), (.int p1)])) _
    refine XS.iand X0.here hx rfl (hb hby at_3) rfl ?_
    show Steps p.tables e below (s₁.setTop (mkF m 4 #[.val (.int p1), .val (.int p2), .val (.int p3), .unset, .unset, .unset, .unset, .unset, .unset, .unset] [(.int (p1 &&& (2147483647 : Int32)))])) _
    refine XS.bipush X0.here hx rfl (hb hby at_4) ?_
    show Steps p.tables e below (s₁.setTop (mkF m 6 #[.val (.int p1), .val (.int p2), .val (.int p3), .unset, .unset, .unset, .unset, .unset, .unset, .unset] [(.int (6 : Int32)), (.int (p1 &&& (2147483647 : Int32)))])) _
    refine iremM X0 hx rfl (hb hby at_6) rfl (by decide) ?_
    show Steps p.tables e below (s₁.setTop (mkF m 7 #[.val (.int p1), .val (.int p2), .val (.int p3), .unset, .unset, .unset, .unset, .unset, .unset, .unset] [(.int ((p1 &&& (2147483647 : Int32)) % (6 : Int32)))])) _
    rw [← hnn]
    show Steps p.tables e below (s₁.setTop (mkF m 7 #[.val (.int p1), .val (.int p2), .val (.int p3), .unset, .unset, .unset, .unset, .unset, .unset, .unset] [(.int nn)])) _
    refine XS.istoreN X0.here hx rfl (hb hby at_7) rfl (l' := #[.val (.int p1), .val (.int p2), .val (.int p3), .val (.int nn), .unset, .unset, .unset, .unset, .unset, .unset]) rfl ?_
    show Steps p.tables e below (s₁.setTop (mkF m 8 #[.val (.int p1), .val (.int p2), .val (.int p3), .val (.int nn), .unset, .unset, .unset, .unset, .unset, .unset] [])) _
    refine XS.iloadN X0.here hx rfl (hb hby at_8) rfl ?_
    show Steps p.tables e below (s₁.setTop (mkF m 9 #[.val (.int p1), .val (.int p2), .val (.int p3), .val (.int nn), .unset, .unset, .unset, .unset, .unset, .unset] [(.int nn)])) _
    refine st1 _ ?_
    show Steps p.tables e below (T1.setTop (mkF m 11 #[.val (.int p1), .val (.int p2), .val (.int p3), .val (.int nn), .unset, .unset, .unset, .unset, .unset, .unset] [(.ref b1)])) _
    refine XS.astore X1.here hx rfl (hb hby at_11) rfl rfl (l' := #[.val (.int p1), .val (.int p2), .val (.int p3), .val (.int nn), .val (.ref b1), .unset, .unset, .unset, .unset, .unset]) rfl ?_
    show Steps p.tables e below (T1.setTop (mkF m 13 #[.val (.int p1), .val (.int p2), .val (.int p3), .val (.int nn), .val (.ref b1), .unset, .unset, .unset, .unset, .unset] [])) _
    refine st2 _ ?_
    show Steps p.tables e below (T2.setTop (mkF m 16 #[.val (.int p1), .val (.int p2), .val (.int p3), .val (.int nn), .val (.ref b1), .unset, .unset, .unset, .unset, .unset] [(.ref b2)])) _
    refine XS.dup X2.here hx rfl (hb hby at_16) rfl rfl ?_
    show Steps p.tables e below (T2.setTop (mkF m 17 #[.val (.int p1), .val (.int p2), .val (.int p3), .val (.int nn), .val (.ref b1), .unset, .unset, .unset, .unset, .unset] [(.ref b2), (.ref b2)])) _
    refine XS.aload X2.here hx rfl (hb hby at_17) rfl rfl ?_
    show Steps p.tables e below (T2.setTop (mkF m 19 #[.val (.int p1), .val (.int p2), .val (.int p3), .val (.int nn), .val (.ref b1), .unset, .unset, .unset, .unset, .unset] [(.ref b1), (.ref b2), (.ref b2)])) _
    refine st3.trans ?_
    show Steps p.tables e below (T3.setTop (mkF m 22 #[.val (.int p1), .val (.int p2), .val (.int p3), .val (.int nn), .val (.ref b1), .unset, .unset, .unset, .unset, .unset] [(.ref b2)])) _
    refine XS.astore X3.here hx rfl (hb hby at_22) rfl rfl (l' := #[.val (.int p1), .val (.int p2), .val (.int p3), .val (.int nn), .val (.ref b1), .val (.ref b2), .unset, .unset, .unset, .unset]) rfl ?_
    show Steps p.tables e below (T3.setTop (mkF m 24 #[.val (.int p1), .val (.int p2), .val (.int p3), .val (.int nn), .val (.ref b1), .val (.ref b2), .unset, .unset, .unset, .unset] [])) _
    refine XS.aload X3.here hx rfl (hb hby at_24) rfl rfl ?_
    show Steps p.tables e below (T3.setTop (mkF m 26 #[.val (.int p1), .val (.int p2), .val (.int p3), .val (.int nn), .val (.ref b1), .val (.ref b2), .unset, .unset, .unset, .unset] [(.ref b2)])) _
    refine st4.trans ?_
    show Steps p.tables e below (T4.setTop (mkF m 29 #[.val (.int p1), .val (.int p2), .val (.int p3), .val (.int nn), .val (.ref b1), .val (.ref b2), .unset, .unset, .unset, .unset] [(.int (own_end (0 : Int32) nn))])) _
    refine XS.iloadN X4.here hx rfl (hb hby at_29) rfl ?_
    suffices J30 : Steps p.tables e below (T4.setTop (mkF m 38 #[.val (.int p1), .val (.int p2), .val (.int p3), .val (.int nn), .val (.ref b1), .val (.ref b2), .unset, .unset, .unset, .unset] [(.int v5), (.int (own_end (0 : Int32) nn))])) (T17.setFrames fs) by
      by_cases hc30 : nn = (0 : Int32)
      · rw [hv5, if_pos hc30] at J30
        show Steps p.tables e below (T4.setTop (mkF m 30 #[.val (.int p1), .val (.int p2), .val (.int p3), .val (.int nn), .val (.ref b1), .val (.ref b2), .unset, .unset, .unset, .unset] [(.int nn), (.int (own_end (0 : Int32) nn))])) _
        refine XS.ifNo X4.here hx rfl (hb hby at_30) rfl ((if0 _ _).trans (teq hc30).2) ?_
        show Steps p.tables e below (T4.setTop (mkF m 33 #[.val (.int p1), .val (.int p2), .val (.int p3), .val (.int nn), .val (.ref b1), .val (.ref b2), .unset, .unset, .unset, .unset] [(.int (own_end (0 : Int32) nn))])) _
        refine XS.iconst X4.here hx rfl (hb hby at_33) ?_
        show Steps p.tables e below (T4.setTop (mkF m 34 #[.val (.int p1), .val (.int p2), .val (.int p3), .val (.int nn), .val (.ref b1), .val (.ref b2), .unset, .unset, .unset, .unset] [(.int (1 : Int32)), (.int (own_end (0 : Int32) nn))])) _
        refine XS.goto X4.here hx rfl (pc0 := 34) (pc' := 38) rfl (hb hby at_34) (by decide) (by decide) ?_
        exact J30
      · rw [hv5, if_neg hc30] at J30
        show Steps p.tables e below (T4.setTop (mkF m 30 #[.val (.int p1), .val (.int p2), .val (.int p3), .val (.int nn), .val (.ref b1), .val (.ref b2), .unset, .unset, .unset, .unset] [(.int nn), (.int (own_end (0 : Int32) nn))])) _
        refine XS.ifYes X4.here hx rfl (pc0 := 30) (pc' := 37) rfl (hb hby at_30) rfl ((if0 _ _).trans (feq hc30).2) (by decide) (by decide) ?_
        show Steps p.tables e below (T4.setTop (mkF m 37 #[.val (.int p1), .val (.int p2), .val (.int p3), .val (.int nn), .val (.ref b1), .val (.ref b2), .unset, .unset, .unset, .unset] [(.int (own_end (0 : Int32) nn))])) _
        refine XS.iconst X4.here hx rfl (hb hby at_37) ?_
        exact J30
    show Steps p.tables e below (T4.setTop (mkF m 38 #[.val (.int p1), .val (.int p2), .val (.int p3), .val (.int nn), .val (.ref b1), .val (.ref b2), .unset, .unset, .unset, .unset] [(.int v5), (.int (own_end (0 : Int32) nn))])) _
    refine XS.icmpNo X4.here hx rfl (hb hby at_38) rfl (teq (by rw [hv5, own_end]; by_cases q : nn = (0 : Int32) <;> simp [q, eq_comm])).2 ?_
    show Steps p.tables e below (T4.setTop (mkF m 41 #[.val (.int p1), .val (.int p2), .val (.int p3), .val (.int nn), .val (.ref b1), .val (.ref b2), .unset, .unset, .unset, .unset] [])) _
    refine XS.iconst X4.here hx rfl (hb hby at_41) ?_
    show Steps p.tables e below (T4.setTop (mkF m 42 #[.val (.int p1), .val (.int p2), .val (.int p3), .val (.int nn), .val (.ref b1), .val (.ref b2), .unset, .unset, .unset, .unset] [(.int (1 : Int32))])) _
    refine XS.goto X4.here hx rfl (pc0 := 42) (pc' := 46) rfl (hb hby at_42) (by decide) (by decide) ?_
    show Steps p.tables e below (T4.setTop (mkF m 46 #[.val (.int p1), .val (.int p2), .val (.int p3), .val (.int nn), .val (.ref b1), .val (.ref b2), .unset, .unset, .unset, .unset] [(.int (1 : Int32))])) _
    refine XS.istore X4.here hx rfl (hb hby at_46) rfl (l' := #[.val (.int p1), .val (.int p2), .val (.int p3), .val (.int nn), .val (.ref b1), .val (.ref b2), .val (.int (1 : Int32)), .unset, .unset, .unset]) rfl ?_
    show Steps p.tables e below (T4.setTop (mkF m 48 #[.val (.int p1), .val (.int p2), .val (.int p3), .val (.int nn), .val (.ref b1), .val (.ref b2), .val (.int (1 : Int32)), .unset, .unset, .unset] [])) _
    refine XS.iconst X4.here hx rfl (hb hby at_48) ?_
    show Steps p.tables e below (T4.setTop (mkF m 49 #[.val (.int p1), .val (.int p2), .val (.int p3), .val (.int nn), .val (.ref b1), .val (.ref b2), .val (.int (1 : Int32)), .unset, .unset, .unset] [(.int (0 : Int32))])) _
    refine XS.istore X4.here hx rfl (hb hby at_49) rfl (l' := #[.val (.int p1), .val (.int p2), .val (.int p3), .val (.int nn), .val (.ref b1), .val (.ref b2), .val (.int (1 : Int32)), .val (.int (0 : Int32)), .unset, .unset]) rfl ?_
    show Steps p.tables e below (T4.setTop (mkF m 51 #[.val (.int p1), .val (.int p2), .val (.int p3), .val (.int nn), .val (.ref b1), .val (.ref b2), .val (.int (1 : Int32)), .val (.int (0 : Int32)), .unset, .unset] [])) _
    refine XS.iloadN X4.here hx rfl (hb hby at_51) rfl ?_
    show Steps p.tables e below (T4.setTop (mkF m 52 #[.val (.int p1), .val (.int p2), .val (.int p3), .val (.int nn), .val (.ref b1), .val (.ref b2), .val (.int (1 : Int32)), .val (.int (0 : Int32)), .unset, .unset] [(.int p2)])) _
    refine XS.iconst X4.here hx rfl (hb hby at_52) ?_
    show Steps p.tables e below (T4.setTop (mkF m 53 #[.val (.int p1), .val (.int p2), .val (.int p3), .val (.int nn), .val (.ref b1), .val (.ref b2), .val (.int (1 : Int32)), .val (.int (0 : Int32)), .unset, .unset] [(.int (1 : Int32)), (.int p2)])) _
    refine XS.iand X4.here hx rfl (hb hby at_53) rfl ?_
    show Steps p.tables e below (T4.setTop (mkF m 54 #[.val (.int p1), .val (.int p2), .val (.int p3), .val (.int nn), .val (.ref b1), .val (.ref b2), .val (.int (1 : Int32)), .val (.int (0 : Int32)), .unset, .unset] [(.int (p2 &&& (1 : Int32)))])) _
    refine XS.ifNo X4.here hx rfl (hb hby at_54) rfl ((if0 _ _).trans (feq hf).1) ?_
    show Steps p.tables e below (T4.setTop (mkF m 57 #[.val (.int p1), .val (.int p2), .val (.int p3), .val (.int nn), .val (.ref b1), .val (.ref b2), .val (.int (1 : Int32)), .val (.int (0 : Int32)), .unset, .unset] [])) _
    refine XS.iloadN X4.here hx rfl (hb hby at_57) rfl ?_
    show Steps p.tables e below (T4.setTop (mkF m 58 #[.val (.int p1), .val (.int p2), .val (.int p3), .val (.int nn), .val (.ref b1), .val (.ref b2), .val (.int (1 : Int32)), .val (.int (0 : Int32)), .unset, .unset] [(.int nn)])) _
    refine XS.iconst X4.here hx rfl (hb hby at_58) ?_
    show Steps p.tables e below (T4.setTop (mkF m 59 #[.val (.int p1), .val (.int p2), .val (.int p3), .val (.int nn), .val (.ref b1), .val (.ref b2), .val (.int (1 : Int32)), .val (.int (0 : Int32)), .unset, .unset] [(.int (4 : Int32)), (.int nn)])) _
    refine XS.icmpNo X4.here hx rfl (hb hby at_59) rfl (flt hfo).1 ?_
    show Steps p.tables e below (T4.setTop (mkF m 62 #[.val (.int p1), .val (.int p2), .val (.int p3), .val (.int nn), .val (.ref b1), .val (.ref b2), .val (.int (1 : Int32)), .val (.int (0 : Int32)), .unset, .unset] [])) _
    refine XS.aload X4.here hx rfl (hb hby at_62) rfl rfl ?_
    show Steps p.tables e below (T4.setTop (mkF m 64 #[.val (.int p1), .val (.int p2), .val (.int p3), .val (.int nn), .val (.ref b1), .val (.ref b2), .val (.int (1 : Int32)), .val (.int (0 : Int32)), .unset, .unset] [(.ref b2)])) _
    refine st6.trans ?_
    show Steps p.tables e below (T6.setTop (mkF m 67 #[.val (.int p1), .val (.int p2), .val (.int p3), .val (.int nn), .val (.ref b1), .val (.ref b2), .val (.int (1 : Int32)), .val (.int (0 : Int32)), .unset, .unset] [(.int u7)])) _
    refine XS.pop X6.here hx rfl (hb hby at_67) rfl rfl ?_
    show Steps p.tables e below (T6.setTop (mkF m 68 #[.val (.int p1), .val (.int p2), .val (.int p3), .val (.int nn), .val (.ref b1), .val (.ref b2), .val (.int (1 : Int32)), .val (.int (0 : Int32)), .unset, .unset] [])) _
    refine XS.iconst X6.here hx rfl (hb hby at_68) ?_
    show Steps p.tables e below (T6.setTop (mkF m 69 #[.val (.int p1), .val (.int p2), .val (.int p3), .val (.int nn), .val (.ref b1), .val (.ref b2), .val (.int (1 : Int32)), .val (.int (0 : Int32)), .unset, .unset] [(.int (4 : Int32))])) _
    refine XS.istore X6.here hx rfl (hb hby at_69) rfl (l' := #[.val (.int p1), .val (.int p2), .val (.int p3), .val (.int nn), .val (.ref b1), .val (.ref b2), .val (.int (1 : Int32)), .val (.int (4 : Int32)), .unset, .unset]) rfl ?_
    show Steps p.tables e below (T6.setTop (mkF m 71 #[.val (.int p1), .val (.int p2), .val (.int p3), .val (.int nn), .val (.ref b1), .val (.ref b2), .val (.int (1 : Int32)), .val (.int (4 : Int32)), .unset, .unset] [])) _
    refine XS.iload X6.here hx rfl (hb hby at_71) rfl ?_
    show Steps p.tables e below (T6.setTop (mkF m 73 #[.val (.int p1), .val (.int p2), .val (.int p3), .val (.int nn), .val (.ref b1), .val (.ref b2), .val (.int (1 : Int32)), .val (.int (4 : Int32)), .unset, .unset] [(.int (1 : Int32))])) _
    refine XS.ifNo X6.here hx rfl (hb hby at_73) rfl ((if0 _ _).trans (feq (by decide)).1) ?_
    show Steps p.tables e below (T6.setTop (mkF m 76 #[.val (.int p1), .val (.int p2), .val (.int p3), .val (.int nn), .val (.ref b1), .val (.ref b2), .val (.int (1 : Int32)), .val (.int (4 : Int32)), .unset, .unset] [])) _
    refine XS.aload X6.here hx rfl (hb hby at_76) rfl rfl ?_
    show Steps p.tables e below (T6.setTop (mkF m 78 #[.val (.int p1), .val (.int p2), .val (.int p3), .val (.int nn), .val (.ref b1), .val (.ref b2), .val (.int (1 : Int32)), .val (.int (4 : Int32)), .unset, .unset] [(.ref b2)])) _
    refine st8.trans ?_
    show Steps p.tables e below (T8.setTop (mkF m 81 #[.val (.int p1), .val (.int p2), .val (.int p3), .val (.int nn), .val (.ref b1), .val (.ref b2), .val (.int (1 : Int32)), .val (.int (4 : Int32)), .unset, .unset] [(.int (own_end (4 : Int32) nn))])) _
    refine XS.iloadN X8.here hx rfl (hb hby at_81) rfl ?_
    show Steps p.tables e below (T8.setTop (mkF m 82 #[.val (.int p1), .val (.int p2), .val (.int p3), .val (.int nn), .val (.ref b1), .val (.ref b2), .val (.int (1 : Int32)), .val (.int (4 : Int32)), .unset, .unset] [(.int nn), (.int (own_end (4 : Int32) nn))])) _
    refine XS.iconst X8.here hx rfl (hb hby at_82) ?_
    suffices J83 : Steps p.tables e below (T8.setTop (mkF m 91 #[.val (.int p1), .val (.int p2), .val (.int p3), .val (.int nn), .val (.ref b1), .val (.ref b2), .val (.int (1 : Int32)), .val (.int (4 : Int32)), .unset, .unset] [(.int v9), (.int (own_end (4 : Int32) nn))])) (T17.setFrames fs) by
      by_cases hc83 : nn = (4 : Int32)
      · rw [hv9, if_pos hc83] at J83
        show Steps p.tables e below (T8.setTop (mkF m 83 #[.val (.int p1), .val (.int p2), .val (.int p3), .val (.int nn), .val (.ref b1), .val (.ref b2), .val (.int (1 : Int32)), .val (.int (4 : Int32)), .unset, .unset] [(.int (4 : Int32)), (.int nn), (.int (own_end (4 : Int32) nn))])) _
        refine XS.icmpNo X8.here hx rfl (hb hby at_83) rfl (teq hc83).2 ?_
        show Steps p.tables e below (T8.setTop (mkF m 86 #[.val (.int p1), .val (.int p2), .val (.int p3), .val (.int nn), .val (.ref b1), .val (.ref b2), .val (.int (1 : Int32)), .val (.int (4 : Int32)), .unset, .unset] [(.int (own_end (4 : Int32) nn))])) _
        refine XS.iconst X8.here hx rfl (hb hby at_86) ?_
        show Steps p.tables e below (T8.setTop (mkF m 87 #[.val (.int p1), .val (.int p2), .val (.int p3), .val (.int nn), .val (.ref b1), .val (.ref b2), .val (.int (1 : Int32)), .val (.int (4 : Int32)), .unset, .unset] [(.int (1 : Int32)), (.int (own_end (4 : Int32) nn))])) _
        refine XS.goto X8.here hx rfl (pc0 := 87) (pc' := 91) rfl (hb hby at_87) (by decide) (by decide) ?_
        exact J83
      · rw [hv9, if_neg hc83] at J83
        show Steps p.tables e below (T8.setTop (mkF m 83 #[.val (.int p1), .val (.int p2), .val (.int p3), .val (.int nn), .val (.ref b1), .val (.ref b2), .val (.int (1 : Int32)), .val (.int (4 : Int32)), .unset, .unset] [(.int (4 : Int32)), (.int nn), (.int (own_end (4 : Int32) nn))])) _
        refine XS.icmpYes X8.here hx rfl (pc0 := 83) (pc' := 90) rfl (hb hby at_83) rfl (feq hc83).2 (by decide) (by decide) ?_
        show Steps p.tables e below (T8.setTop (mkF m 90 #[.val (.int p1), .val (.int p2), .val (.int p3), .val (.int nn), .val (.ref b1), .val (.ref b2), .val (.int (1 : Int32)), .val (.int (4 : Int32)), .unset, .unset] [(.int (own_end (4 : Int32) nn))])) _
        refine XS.iconst X8.here hx rfl (hb hby at_90) ?_
        exact J83
    show Steps p.tables e below (T8.setTop (mkF m 91 #[.val (.int p1), .val (.int p2), .val (.int p3), .val (.int nn), .val (.ref b1), .val (.ref b2), .val (.int (1 : Int32)), .val (.int (4 : Int32)), .unset, .unset] [(.int v9), (.int (own_end (4 : Int32) nn))])) _
    refine XS.icmpNo X8.here hx rfl (hb hby at_91) rfl (teq (by rw [hv9, own_end]; by_cases q : nn = (4 : Int32) <;> simp [q, eq_comm])).2 ?_
    show Steps p.tables e below (T8.setTop (mkF m 94 #[.val (.int p1), .val (.int p2), .val (.int p3), .val (.int nn), .val (.ref b1), .val (.ref b2), .val (.int (1 : Int32)), .val (.int (4 : Int32)), .unset, .unset] [])) _
    refine XS.iconst X8.here hx rfl (hb hby at_94) ?_
    show Steps p.tables e below (T8.setTop (mkF m 95 #[.val (.int p1), .val (.int p2), .val (.int p3), .val (.int nn), .val (.ref b1), .val (.ref b2), .val (.int (1 : Int32)), .val (.int (4 : Int32)), .unset, .unset] [(.int (1 : Int32))])) _
    refine XS.goto X8.here hx rfl (pc0 := 95) (pc' := 99) rfl (hb hby at_95) (by decide) (by decide) ?_
    show Steps p.tables e below (T8.setTop (mkF m 99 #[.val (.int p1), .val (.int p2), .val (.int p3), .val (.int nn), .val (.ref b1), .val (.ref b2), .val (.int (1 : Int32)), .val (.int (4 : Int32)), .unset, .unset] [(.int (1 : Int32))])) _
    refine XS.istore X8.here hx rfl (hb hby at_99) rfl (l' := #[.val (.int p1), .val (.int p2), .val (.int p3), .val (.int nn), .val (.ref b1), .val (.ref b2), .val (.int (1 : Int32)), .val (.int (4 : Int32)), .unset, .unset]) rfl ?_
    show Steps p.tables e below (T8.setTop (mkF m 101 #[.val (.int p1), .val (.int p2), .val (.int p3), .val (.int nn), .val (.ref b1), .val (.ref b2), .val (.int (1 : Int32)), .val (.int (4 : Int32)), .unset, .unset] [])) _
    refine XS.iloadN X8.here hx rfl (hb hby at_101) rfl ?_
    show Steps p.tables e below (T8.setTop (mkF m 102 #[.val (.int p1), .val (.int p2), .val (.int p3), .val (.int nn), .val (.ref b1), .val (.ref b2), .val (.int (1 : Int32)), .val (.int (4 : Int32)), .unset, .unset] [(.int nn)])) _
    refine XS.iload X8.here hx rfl (hb hby at_102) rfl ?_
    show Steps p.tables e below (T8.setTop (mkF m 104 #[.val (.int p1), .val (.int p2), .val (.int p3), .val (.int nn), .val (.ref b1), .val (.ref b2), .val (.int (1 : Int32)), .val (.int (4 : Int32)), .unset, .unset] [(.int (4 : Int32)), (.int nn)])) _
    refine XS.isub X8.here hx rfl (hb hby at_104) rfl ?_
    show Steps p.tables e below (T8.setTop (mkF m 105 #[.val (.int p1), .val (.int p2), .val (.int p3), .val (.int nn), .val (.ref b1), .val (.ref b2), .val (.int (1 : Int32)), .val (.int (4 : Int32)), .unset, .unset] [(.int (nn - (4 : Int32)))])) _
    rw [← hf10]
    show Steps p.tables e below (T8.setTop (mkF m 105 #[.val (.int p1), .val (.int p2), .val (.int p3), .val (.int nn), .val (.ref b1), .val (.ref b2), .val (.int (1 : Int32)), .val (.int (4 : Int32)), .unset, .unset] [(.int f10)])) _
    refine XS.istore X8.here hx rfl (hb hby at_105) rfl (l' := #[.val (.int p1), .val (.int p2), .val (.int p3), .val (.int nn), .val (.ref b1), .val (.ref b2), .val (.int (1 : Int32)), .val (.int (4 : Int32)), .val (.int f10), .unset]) rfl ?_
    show Steps p.tables e below (T8.setTop (mkF m 107 #[.val (.int p1), .val (.int p2), .val (.int p3), .val (.int nn), .val (.ref b1), .val (.ref b2), .val (.int (1 : Int32)), .val (.int (4 : Int32)), .val (.int f10), .unset] [])) _
    refine XS.iloadN X8.here hx rfl (hb hby at_107) rfl ?_
    show Steps p.tables e below (T8.setTop (mkF m 108 #[.val (.int p1), .val (.int p2), .val (.int p3), .val (.int nn), .val (.ref b1), .val (.ref b2), .val (.int (1 : Int32)), .val (.int (4 : Int32)), .val (.int f10), .unset] [(.int p3)])) _
    refine X8.ldcInt hx hown (mvT hZ (hw _ (List.mem_of_getElem? (i := 0) rfl))) (g := (mkF m 108 #[.val (.int p1), .val (.int p2), .val (.int p3), .val (.int nn), .val (.ref b1), .val (.ref b2), .val (.int (1 : Int32)), .val (.int (4 : Int32)), .val (.int f10), .unset] [(.int p3)])) rfl (hb hby at_108) _ ?_
    show Steps p.tables e below (T8.setTop (mkF m 110 #[.val (.int p1), .val (.int p2), .val (.int p3), .val (.int nn), .val (.ref b1), .val (.ref b2), .val (.int (1 : Int32)), .val (.int (4 : Int32)), .val (.int f10), .unset] [(.int (2147483647 : Int32)), (.int p3)])) _
    refine XS.iand X8.here hx rfl (hb hby at_110) rfl ?_
    show Steps p.tables e below (T8.setTop (mkF m 111 #[.val (.int p1), .val (.int p2), .val (.int p3), .val (.int nn), .val (.ref b1), .val (.ref b2), .val (.int (1 : Int32)), .val (.int (4 : Int32)), .val (.int f10), .unset] [(.int (p3 &&& (2147483647 : Int32)))])) _
    refine XS.iload X8.here hx rfl (hb hby at_111) rfl ?_
    show Steps p.tables e below (T8.setTop (mkF m 113 #[.val (.int p1), .val (.int p2), .val (.int p3), .val (.int nn), .val (.ref b1), .val (.ref b2), .val (.int (1 : Int32)), .val (.int (4 : Int32)), .val (.int f10), .unset] [(.int f10), (.int (p3 &&& (2147483647 : Int32)))])) _
    refine XS.iconst X8.here hx rfl (hb hby at_113) ?_
    show Steps p.tables e below (T8.setTop (mkF m 114 #[.val (.int p1), .val (.int p2), .val (.int p3), .val (.int nn), .val (.ref b1), .val (.ref b2), .val (.int (1 : Int32)), .val (.int (4 : Int32)), .val (.int f10), .unset] [(.int (1 : Int32)), (.int f10), (.int (p3 &&& (2147483647 : Int32)))])) _
    refine XS.iadd X8.here hx rfl (hb hby at_114) rfl ?_
    show Steps p.tables e below (T8.setTop (mkF m 115 #[.val (.int p1), .val (.int p2), .val (.int p3), .val (.int nn), .val (.ref b1), .val (.ref b2), .val (.int (1 : Int32)), .val (.int (4 : Int32)), .val (.int f10), .unset] [(.int (f10 + (1 : Int32))), (.int (p3 &&& (2147483647 : Int32)))])) _
    refine iremM X8 hx rfl (hb hby at_115) rfl (own_nz hf10 hC) ?_
    show Steps p.tables e below (T8.setTop (mkF m 116 #[.val (.int p1), .val (.int p2), .val (.int p3), .val (.int nn), .val (.ref b1), .val (.ref b2), .val (.int (1 : Int32)), .val (.int (4 : Int32)), .val (.int f10), .unset] [(.int ((p3 &&& (2147483647 : Int32)) % (f10 + (1 : Int32))))])) _
    rw [← hk11]
    show Steps p.tables e below (T8.setTop (mkF m 116 #[.val (.int p1), .val (.int p2), .val (.int p3), .val (.int nn), .val (.ref b1), .val (.ref b2), .val (.int (1 : Int32)), .val (.int (4 : Int32)), .val (.int f10), .unset] [(.int k11)])) _
    refine XS.istore X8.here hx rfl (hb hby at_116) rfl (l' := #[.val (.int p1), .val (.int p2), .val (.int p3), .val (.int nn), .val (.ref b1), .val (.ref b2), .val (.int (1 : Int32)), .val (.int (4 : Int32)), .val (.int f10), .val (.int k11)]) rfl ?_
    show Steps p.tables e below (T8.setTop (mkF m 118 #[.val (.int p1), .val (.int p2), .val (.int p3), .val (.int nn), .val (.ref b1), .val (.ref b2), .val (.int (1 : Int32)), .val (.int (4 : Int32)), .val (.int f10), .val (.int k11)] [])) _
    refine st12 _ ?_
    show Steps p.tables e below (T12.setTop (mkF m 130 #[.val (.int p1), .val (.int p2), .val (.int p3), .val (.int nn), .val (.ref b1), .val (.ref b2), .val (.int (1 : Int32)), .val (.int (4 : Int32)), .val (.int f10), .val (.int k11)] [])) _
    refine st13 _ ?_
    show Steps p.tables e below (T13.setTop (mkF m 142 #[.val (.int p1), .val (.int p2), .val (.int p3), .val (.int nn), .val (.ref b1), .val (.ref b2), .val (.int (1 : Int32)), .val (.int (4 : Int32)), .val (.int f10), .val (.int k11)] [])) _
    refine st14 _ ?_
    show Steps p.tables e below (T14.setTop (mkF m 154 #[.val (.int p1), .val (.int p2), .val (.int p3), .val (.int nn), .val (.ref b1), .val (.ref b2), .val (.int (1 : Int32)), .val (.int (4 : Int32)), .val (.int f10), .val (.int k11)] [])) _
    refine st15 _ ?_
    show Steps p.tables e below (T15.setTop (mkF m 166 #[.val (.int p1), .val (.int p2), .val (.int p3), .val (.int nn), .val (.ref b1), .val (.ref b2), .val (.int (1 : Int32)), .val (.int (4 : Int32)), .val (.int f10), .val (.int k11)] [])) _
    refine st16 _ ?_
    show Steps p.tables e below (T16.setTop (mkF m 178 #[.val (.int p1), .val (.int p2), .val (.int p3), .val (.int nn), .val (.ref b1), .val (.ref b2), .val (.int (1 : Int32)), .val (.int (4 : Int32)), .val (.int f10), .val (.int k11)] [])) _
    refine XS.iload X16.here hx rfl (hb hby at_178) rfl ?_
    show Steps p.tables e below (T16.setTop (mkF m 180 #[.val (.int p1), .val (.int p2), .val (.int p3), .val (.int nn), .val (.ref b1), .val (.ref b2), .val (.int (1 : Int32)), .val (.int (4 : Int32)), .val (.int f10), .val (.int k11)] [(.int (4 : Int32))])) _
    refine XS.iload X16.here hx rfl (hb hby at_180) rfl ?_
    show Steps p.tables e below (T16.setTop (mkF m 182 #[.val (.int p1), .val (.int p2), .val (.int p3), .val (.int nn), .val (.ref b1), .val (.ref b2), .val (.int (1 : Int32)), .val (.int (4 : Int32)), .val (.int f10), .val (.int k11)] [(.int k11), (.int (4 : Int32))])) _
    refine XS.iadd X16.here hx rfl (hb hby at_182) rfl ?_
    show Steps p.tables e below (T16.setTop (mkF m 183 #[.val (.int p1), .val (.int p2), .val (.int p3), .val (.int nn), .val (.ref b1), .val (.ref b2), .val (.int (1 : Int32)), .val (.int (4 : Int32)), .val (.int f10), .val (.int k11)] [(.int ((4 : Int32) + k11))])) _
    refine XS.istore X16.here hx rfl (hb hby at_183) rfl (l' := #[.val (.int p1), .val (.int p2), .val (.int p3), .val (.int nn), .val (.ref b1), .val (.ref b2), .val (.int (1 : Int32)), .val (.int ((4 : Int32) + k11)), .val (.int f10), .val (.int k11)]) rfl ?_
    show Steps p.tables e below (T16.setTop (mkF m 185 #[.val (.int p1), .val (.int p2), .val (.int p3), .val (.int nn), .val (.ref b1), .val (.ref b2), .val (.int (1 : Int32)), .val (.int ((4 : Int32) + k11)), .val (.int f10), .val (.int k11)] [])) _
    refine XS.iload X16.here hx rfl (hb hby at_185) rfl ?_
    show Steps p.tables e below (T16.setTop (mkF m 187 #[.val (.int p1), .val (.int p2), .val (.int p3), .val (.int nn), .val (.ref b1), .val (.ref b2), .val (.int (1 : Int32)), .val (.int ((4 : Int32) + k11)), .val (.int f10), .val (.int k11)] [(.int (1 : Int32))])) _
    refine XS.ifNo X16.here hx rfl (hb hby at_187) rfl ((if0 _ _).trans (feq (by decide)).1) ?_
    show Steps p.tables e below (T16.setTop (mkF m 190 #[.val (.int p1), .val (.int p2), .val (.int p3), .val (.int nn), .val (.ref b1), .val (.ref b2), .val (.int (1 : Int32)), .val (.int ((4 : Int32) + k11)), .val (.int f10), .val (.int k11)] [])) _
    refine XS.aload X16.here hx rfl (hb hby at_190) rfl rfl ?_
    show Steps p.tables e below (T16.setTop (mkF m 192 #[.val (.int p1), .val (.int p2), .val (.int p3), .val (.int nn), .val (.ref b1), .val (.ref b2), .val (.int (1 : Int32)), .val (.int ((4 : Int32) + k11)), .val (.int f10), .val (.int k11)] [(.ref b2)])) _
    refine st17.trans ?_
    show Steps p.tables e below (T17.setTop (mkF m 195 #[.val (.int p1), .val (.int p2), .val (.int p3), .val (.int nn), .val (.ref b1), .val (.ref b2), .val (.int (1 : Int32)), .val (.int ((4 : Int32) + k11)), .val (.int f10), .val (.int k11)] [(.int (own_end s16 nn))])) _
    refine XS.iload X17.here hx rfl (hb hby at_195) rfl ?_
    show Steps p.tables e below (T17.setTop (mkF m 197 #[.val (.int p1), .val (.int p2), .val (.int p3), .val (.int nn), .val (.ref b1), .val (.ref b2), .val (.int (1 : Int32)), .val (.int ((4 : Int32) + k11)), .val (.int f10), .val (.int k11)] [(.int ((4 : Int32) + k11)), (.int (own_end s16 nn))])) _
    refine XS.iloadN X17.here hx rfl (hb hby at_197) rfl ?_
    suffices J198 : Steps p.tables e below (T17.setTop (mkF m 206 #[.val (.int p1), .val (.int p2), .val (.int p3), .val (.int nn), .val (.ref b1), .val (.ref b2), .val (.int (1 : Int32)), .val (.int ((4 : Int32) + k11)), .val (.int f10), .val (.int k11)] [(.int v18), (.int (own_end s16 nn))])) (T17.setFrames fs) by
      by_cases hc198 : ((4 : Int32) + k11) = nn
      · rw [hv18, if_pos hc198] at J198
        show Steps p.tables e below (T17.setTop (mkF m 198 #[.val (.int p1), .val (.int p2), .val (.int p3), .val (.int nn), .val (.ref b1), .val (.ref b2), .val (.int (1 : Int32)), .val (.int ((4 : Int32) + k11)), .val (.int f10), .val (.int k11)] [(.int nn), (.int ((4 : Int32) + k11)), (.int (own_end s16 nn))])) _
        refine XS.icmpNo X17.here hx rfl (hb hby at_198) rfl (teq hc198).2 ?_
        show Steps p.tables e below (T17.setTop (mkF m 201 #[.val (.int p1), .val (.int p2), .val (.int p3), .val (.int nn), .val (.ref b1), .val (.ref b2), .val (.int (1 : Int32)), .val (.int ((4 : Int32) + k11)), .val (.int f10), .val (.int k11)] [(.int (own_end s16 nn))])) _
        refine XS.iconst X17.here hx rfl (hb hby at_201) ?_
        show Steps p.tables e below (T17.setTop (mkF m 202 #[.val (.int p1), .val (.int p2), .val (.int p3), .val (.int nn), .val (.ref b1), .val (.ref b2), .val (.int (1 : Int32)), .val (.int ((4 : Int32) + k11)), .val (.int f10), .val (.int k11)] [(.int (1 : Int32)), (.int (own_end s16 nn))])) _
        refine XS.goto X17.here hx rfl (pc0 := 202) (pc' := 206) rfl (hb hby at_202) (by decide) (by decide) ?_
        exact J198
      · rw [hv18, if_neg hc198] at J198
        show Steps p.tables e below (T17.setTop (mkF m 198 #[.val (.int p1), .val (.int p2), .val (.int p3), .val (.int nn), .val (.ref b1), .val (.ref b2), .val (.int (1 : Int32)), .val (.int ((4 : Int32) + k11)), .val (.int f10), .val (.int k11)] [(.int nn), (.int ((4 : Int32) + k11)), (.int (own_end s16 nn))])) _
        refine XS.icmpYes X17.here hx rfl (pc0 := 198) (pc' := 205) rfl (hb hby at_198) rfl (feq hc198).2 (by decide) (by decide) ?_
        show Steps p.tables e below (T17.setTop (mkF m 205 #[.val (.int p1), .val (.int p2), .val (.int p3), .val (.int nn), .val (.ref b1), .val (.ref b2), .val (.int (1 : Int32)), .val (.int ((4 : Int32) + k11)), .val (.int f10), .val (.int k11)] [(.int (own_end s16 nn))])) _
        refine XS.iconst X17.here hx rfl (hb hby at_205) ?_
        exact J198
    show Steps p.tables e below (T17.setTop (mkF m 206 #[.val (.int p1), .val (.int p2), .val (.int p3), .val (.int nn), .val (.ref b1), .val (.ref b2), .val (.int (1 : Int32)), .val (.int ((4 : Int32) + k11)), .val (.int f10), .val (.int k11)] [(.int v18), (.int (own_end s16 nn))])) _
    refine XS.icmpNo X17.here hx rfl (hb hby at_206) rfl (teq (by rw [hv18, own_end, hL])).2 ?_
    show Steps p.tables e below (T17.setTop (mkF m 209 #[.val (.int p1), .val (.int p2), .val (.int p3), .val (.int nn), .val (.ref b1), .val (.ref b2), .val (.int (1 : Int32)), .val (.int ((4 : Int32) + k11)), .val (.int f10), .val (.int k11)] [])) _
    refine XS.iconst X17.here hx rfl (hb hby at_209) ?_
    show Steps p.tables e below (T17.setTop (mkF m 210 #[.val (.int p1), .val (.int p2), .val (.int p3), .val (.int nn), .val (.ref b1), .val (.ref b2), .val (.int (1 : Int32)), .val (.int ((4 : Int32) + k11)), .val (.int f10), .val (.int k11)] [(.int (1 : Int32))])) _
    refine XS.goto X17.here hx rfl (pc0 := 210) (pc' := 214) rfl (hb hby at_210) (by decide) (by decide) ?_
    show Steps p.tables e below (T17.setTop (mkF m 214 #[.val (.int p1), .val (.int p2), .val (.int p3), .val (.int nn), .val (.ref b1), .val (.ref b2), .val (.int (1 : Int32)), .val (.int ((4 : Int32) + k11)), .val (.int f10), .val (.int k11)] [(.int (1 : Int32))])) _
    refine XS.istore X17.here hx rfl (hb hby at_214) rfl (l' := #[.val (.int p1), .val (.int p2), .val (.int p3), .val (.int nn), .val (.ref b1), .val (.ref b2), .val (.int (1 : Int32)), .val (.int ((4 : Int32) + k11)), .val (.int f10), .val (.int k11)]) rfl ?_
    show Steps p.tables e below (T17.setTop (mkF m 216 #[.val (.int p1), .val (.int p2), .val (.int p3), .val (.int nn), .val (.ref b1), .val (.ref b2), .val (.int (1 : Int32)), .val (.int ((4 : Int32) + k11)), .val (.int f10), .val (.int k11)] [])) _
    refine XS.iload X17.here hx rfl (hb hby at_216) rfl ?_
    show Steps p.tables e below (T17.setTop (mkF m 218 #[.val (.int p1), .val (.int p2), .val (.int p3), .val (.int nn), .val (.ref b1), .val (.ref b2), .val (.int (1 : Int32)), .val (.int ((4 : Int32) + k11)), .val (.int f10), .val (.int k11)] [(.int (1 : Int32))])) _
    exact retN X17 hx (t := .boolean) Bd.returns (by simp) (hb hby at_218) hr
  · show own_Q_law Z p1 p2 p3  h0 n0 _ T17.heap _
    exact ⟨rfl, N17⟩
set_option maxRecDepth 65536 in
set_option maxHeartbeats 40000000 in
theorem own_rm_law (l : Launch) (Z : State) (a0 : Array Value) (hw : ∀ d ∈ tables_1, d.before a0 Z = true) (ws : List Jvm.Cond) (p1 : Int32) (p2 : Int32) (p3 : Int32)  (h0 : Heap) (n0 : Nat) (Z0 : n0 ≤ h0.size) :
    MetFree l x (head1 (Jvm.Cond.code x code maxLocals ret :: ws) room_1) (fun a U => a = #[(.int p1), (.int p2), (.int p3)] ∧ Z.Warmed39 U.vm ∧ U.heap = h0) (fun _ _ _ _ _ => True) (fun _ U o U' => ∃ v L, o = .returned v ∧ own_Q_law Z p1 p2 p3  h0 n0 v U'.heap L ∧ FrameEnd U o U' L room_1.cells room_1.slots) := by
  obtain ⟨nn, hnn⟩ : ∃ z : Int32, z = ((p1 &&& (2147483647 : Int32)) % (6 : Int32)) := ⟨_, rfl⟩
  by_cases hf : (p2 &&& (1 : Int32)) = (0 : Int32)
  · exact own_rm_law_a l Z a0 hw ws p1 p2 p3 h0 n0 Z0 nn hnn hf
  · by_cases h4 : nn < (4 : Int32)
    · exact own_rm_law_b l Z a0 hw ws p1 p2 p3 h0 n0 Z0 nn hnn hf h4
    · exact own_rm_law_c l Z a0 hw ws p1 p2 p3 h0 n0 Z0 nn hnn hf h4
set_option maxRecDepth 65536 in
set_option maxHeartbeats 40000000 in
theorem own_comes {Post : Tables → Env → Array Value → State → Outcome → State → Prop} (hpost : ∀ tb e args s v u, (limb_1_1.after args s (.returned v) u = true ∧ limb_1_2.after args s (.returned v) u = true) → FrameEnd s (.returned v) u (Jvm.fieldLocs frame_1_writes args s ++ Jvm.arrayLocs frame_1_arrays args s ++ Jvm.staticLocs frame_1_statics s) 16 128 → Post tb e args s (.returned v) u) :
    ArmFor flags0 classFile x code maxLocals ret World_1 tables_1 room_1 Calls_1 rest_1 Pre_1 Post := by
  intro l hfl _ _ p e ha hc hk s m args below hf hA hF happ hP
  obtain ⟨hcalls, hrest, hpre⟩ := hP
  obtain ⟨-, -, -, hnamed, -, -, -, hat⟩ := (Spec.applies_iff hf).mp happ
  obtain ⟨hg, hn⟩ := and_e (Cond.before_iff.mp (show (Jvm.Cond.and given_1 narrow_1).before args s = true from hpre))
  obtain ⟨gc, gr⟩ := and_e hg
  obtain ⟨ga0, gr0⟩ := and_e gr
  obtain ⟨ga1, gr1⟩ := and_e gr0
  obtain ⟨w0, w1, w2, rfl⟩ : ∃ w0 w1 w2 : Value, args = #[w0, w1, w2] := by
    have hs : args.size = 3 := by simpa [Cond.value, given_1] using gc
    obtain ⟨L⟩ := args
    match L, hs with
    | [w0, w1, w2], _ => exact ⟨w0, w1, w2, rfl⟩
  have hw := fun d (hd : d ∈ tables_1) => atoms_spec (ws := Jvm.Cond.code x code maxLocals ret :: tables_1) hat d (List.mem_cons_of_mem _ hd)
  obtain ⟨i0, ei0⟩ := is_v ga0
  obtain rfl : w0 = (.int i0) := Option.some.inj ei0
  obtain ⟨i1, ei1⟩ := is_v ga1
  obtain rfl : w1 = (.int i1) := Option.some.inj ei1
  obtain ⟨i2, ei2⟩ := is_v gr1
  obtain rfl : w2 = (.int i2) := Option.some.inj ei2
  obtain ⟨n, o, h1, h2, h3, _, L, rfl, ⟨rfl, N⟩, hq⟩ := own_rm_law l s _ hw tables_1 i0 i1 i2 s.heap s.heap.size (Nat.le_refl _) p e ha hc hk s m _ below hf ((Spec.applies_iff_loose hf).mp happ).1 ⟨rfl, State.Warmed39.refl s, rfl⟩ trivial
  refine ⟨n, _, h1, h2, h3, hpost _ _ _ _ _ _ ⟨Cond.after_iff.mpr rfl, Cond.after_iff.mpr (eq_i res_at (Term.int_eval (1)) rfl)⟩ ⟨hq.1, hq.2.1, (hq.2.2.sift fun y hy => Or.inr (N y hy)).mono (by decide) (by decide)⟩⟩
theorem main_1_1 : Claimed_1_1 := own_comes fun _ _ _ _ _ _ h hF => ⟨h.1, hF⟩
theorem main_1_2 : Claimed_1_2 := own_comes fun _ _ _ _ _ _ h hF => ⟨h.2, hF⟩
end Jvm.Pilot.@@N@@
namespace Jvm.Pilot.@@N@@
open Jvm Jvm.ClassFile Sem Op Lib Jvm.Free Jvm.Stand Jvm.Pilot.@@N@@.Jvm.D
/-! MADE BY PROGRAM (witnessworld.py) out of the Statement's table words and the real class files: 9 classes; the members and pool entries that the words name. The judged class is class 1, her method 1. -/
namespace start1
open Jvm.ClassFile
def u (s : String) : CpInfo := .utf8 (stringToUtf16 s)
/-- a pool by its gaps: so many unusable entries, then the entry; so many at the end -/
def gap : Nat → List CpInfo → List CpInfo
  | 0, r => r
  | n + 1, r => .unusable :: gap n r
def poolList (es : List (Nat × CpInfo)) (last : Nat) : List CpInfo := es.foldr (fun e r => gap e.1 (e.2 :: r)) (gap last [])
def pool (es : List (Nat × CpInfo)) (last : Nat) : Array CpInfo := ⟨poolList es last⟩
def fileOf (pool : Array CpInfo) (this : Nat) (attrs : Array Attribute := #[]) (ms : Array MethodInfo := #[]) (fl : Nat := 33) (sup : Nat := 0) (ifs : Array Nat := #[]) (fds : Array FieldInfo := #[]) : ClassFile where
  minorVersion := 0
  majorVersion := 65
  constantPool := pool
  accessFlags := fl
  thisClass := this
  superClass := sup
  interfaces := ifs
  fields := fds
  methods := ms
  attributes := attrs
def plain (name : String) (sup : Option ClassId) : Class where
  name := name
  kind := .ordinary
  loader := none
  accessFlags := 33
  super := sup
  interfaces := #[]
  cf := none
  fields := #[]
  methods := #[]
  instanceTypes := #[]
  staticTypes := #[]
  resolved := #[]
  callSites := []
  init := .initialized
  statics := none
  mirror := none

def pool0 : Array CpInfo := pool [(5, u "<init>"), (0, u "()V"), (1, .class_ 10), (1, u "java/lang/Object")] 113

def k0c0 : Code := { maxStack := 0, maxLocals := 1, code := object_method_1_code, exceptionTable := #[], attributes := #[] }
def k0m0 : Method := { name := "<init>", desc := "()V", sig := { parameters := [], returnType := none }, accessFlags := 1, code := some k0c0 }
/-- java/lang/Object -/
def k0 : Class := { plain "java/lang/Object" none with
  accessFlags := 33
  interfaces := #[]
  cf := some (fileOf pool0 8 #[] #[{ accessFlags := 1, nameIndex := 5, descriptorIndex := 6, attributes := #[] }] 33 0 #[] #[])
  fields := #[]
  methods := #[k0m0]
  instanceTypes := #[]
  staticTypes := #[]
  resolved := Array.replicate 124 none
  statics := none }

def pool1 : Array CpInfo := pool [(2, .class_ 4), (1, u "java/lang/Object"), (0, u "<init>"), (0, u "()V"), (0, .integer 2147483647), (0, .class_ 9), (0, u "com/example/accordant/accordant/FieldReader"), (0, .methodref 8 11), (0, .nameAndType 5 12), (0, u "([B)V"), (0, .methodref 8 14), (0, .nameAndType 15 16), (0, u "atEnd"), (0, u "()Z"), (0, .methodref 8 18), (0, .nameAndType 19 20), (0, u "readInt"), (0, u "()I"), (0, .methodref 8 22), (0, .nameAndType 23 16), (0, u "readBoolean"), (0, .class_ 25), (0, u "com/example/accordant/accordant/FieldReaderAtEndPinLaw"), (2, u "law"), (0, u "(III)Z")] 5

def k1m0 : Method := { name := "<init>", desc := "()V", sig := { parameters := [], returnType := none }, accessFlags := 1, code := none }
def k1c1 : Code := { maxStack := 3, maxLocals := 10, code := code, exceptionTable := #[], attributes := #[] }
def k1m1 : Method := { name := "law", desc := "(III)Z", sig := { parameters := [.int, .int, .int], returnType := some .boolean }, accessFlags := 9, code := some k1c1 }
/-- com/example/accordant/accordant/FieldReaderAtEndPinLaw -/
def k1 : Class := { plain "com/example/accordant/accordant/FieldReaderAtEndPinLaw" (some 0) with
  accessFlags := 49
  interfaces := #[]
  cf := some (fileOf pool1 24 #[] #[{ accessFlags := 1, nameIndex := 5, descriptorIndex := 6, attributes := #[] }, { accessFlags := 9, nameIndex := 28, descriptorIndex := 29, attributes := #[] }] 49 2 #[] #[])
  fields := #[]
  methods := #[k1m0, k1m1]
  instanceTypes := #[]
  staticTypes := #[]
  resolved := Array.replicate 35 none
  statics := none }

def pool2 : Array CpInfo := pool [(1, .methodref 2 3), (0, .class_ 4), (0, .nameAndType 5 6), (0, u "java/lang/Object"), (0, u "<init>"), (0, u "()V"), (0, .fieldref 8 9), (0, .class_ 10), (0, .nameAndType 11 12), (0, u "com/example/accordant/accordant/FieldReader"), (0, u "fields"), (0, u "[B"), (0, .methodref 8 14), (0, .nameAndType 15 16), (0, u "claim"), (0, u "(I)V"), (0, .fieldref 8 18), (0, .nameAndType 19 20), (0, u "position"), (0, u "I"), (2, u "readInt"), (0, u "()I"), (29, u "([B)V"), (3, u "readBoolean"), (0, u "()Z"), (5, u "atEnd")] 19

def k2c0 : Code := { maxStack := 2, maxLocals := 2, code := prog_5_method_1_code, exceptionTable := #[], attributes := #[] }
def k2m0 : Method := { name := "<init>", desc := "([B)V", sig := { parameters := [(.array .byte)], returnType := none }, accessFlags := 1, code := some k2c0 }
def k2c1 : Code := { maxStack := 4, maxLocals := 2, code := prog_5_method_2_code, exceptionTable := #[], attributes := #[] }
def k2m1 : Method := { name := "readInt", desc := "()I", sig := { parameters := [], returnType := some .int }, accessFlags := 1, code := some k2c1 }
def k2c2 : Code := { maxStack := 5, maxLocals := 2, code := prog_5_method_4_code, exceptionTable := #[], attributes := #[] }
def k2m2 : Method := { name := "readBoolean", desc := "()Z", sig := { parameters := [], returnType := some .boolean }, accessFlags := 1, code := some k2c2 }
def k2c3 : Code := { maxStack := 2, maxLocals := 1, code := prog_5_method_7_code, exceptionTable := #[], attributes := #[] }
def k2m3 : Method := { name := "atEnd", desc := "()Z", sig := { parameters := [], returnType := some .boolean }, accessFlags := 1, code := some k2c3 }
def k2c4 : Code := { maxStack := 4, maxLocals := 2, code := prog_5_method_8_code, exceptionTable := #[], attributes := #[] }
def k2m4 : Method := { name := "claim", desc := "(I)V", sig := { parameters := [.int], returnType := none }, accessFlags := 2, code := some k2c4 }
/-- com/example/accordant/accordant/FieldReader -/
def k2 : Class := { plain "com/example/accordant/accordant/FieldReader" (some 0) with
  accessFlags := 49
  interfaces := #[]
  cf := some (fileOf pool2 8 #[] #[{ accessFlags := 1, nameIndex := 5, descriptorIndex := 54, attributes := #[] }, { accessFlags := 1, nameIndex := 23, descriptorIndex := 24, attributes := #[] }, { accessFlags := 1, nameIndex := 58, descriptorIndex := 59, attributes := #[] }, { accessFlags := 1, nameIndex := 65, descriptorIndex := 59, attributes := #[] }, { accessFlags := 2, nameIndex := 15, descriptorIndex := 16, attributes := #[] }] 49 2 #[] #[{ accessFlags := 18, nameIndex := 11, descriptorIndex := 12, attributes := #[] }, { accessFlags := 2, nameIndex := 19, descriptorIndex := 20, attributes := #[] }])
  fields := #[{ name := "fields", type := (.array .byte), accessFlags := 18, slot := 0, constantValue := 0 }, { name := "position", type := .int, accessFlags := 2, slot := 1, constantValue := 0 }]
  methods := #[k2m0, k2m1, k2m2, k2m3, k2m4]
  instanceTypes := #[(.array .byte), .int]
  staticTypes := #[]
  resolved := Array.replicate 85 none
  statics := none }

def pool3 : Array CpInfo := pool [(1, u "java/lang/Cloneable"), (0, .class_ 1), (0, u "java/lang/Object"), (0, .class_ 3)] 3

/-- java/lang/Cloneable -/
def k3 : Class := { plain "java/lang/Cloneable" (some 0) with
  accessFlags := 1537
  interfaces := #[]
  cf := some (fileOf pool3 2 #[] #[] 1537 4 #[] #[])
  fields := #[]
  methods := #[]
  instanceTypes := #[]
  staticTypes := #[]
  resolved := Array.replicate 8 none
  statics := none }

def pool4 : Array CpInfo := pool [(1, u "java/io/Serializable"), (0, .class_ 1), (0, u "java/lang/Object"), (0, .class_ 3)] 3

/-- java/io/Serializable -/
def k4 : Class := { plain "java/io/Serializable" (some 0) with
  accessFlags := 1537
  interfaces := #[]
  cf := some (fileOf pool4 2 #[] #[] 1537 4 #[] #[])
  fields := #[]
  methods := #[]
  instanceTypes := #[]
  staticTypes := #[]
  resolved := Array.replicate 8 none
  statics := none }

/-- the primitive byte -/
def k5 : Class := { plain "byte" none with kind := .primitive 'B', accessFlags := 0x411 }
/-- [B -/
def k6 : Class := { plain "[B" (some 0) with kind := .array 5 .byte, interfaces := #[3, 4], accessFlags := 1041 }

/-- the primitive int -/
def k7 : Class := { plain "int" none with kind := .primitive 'I', accessFlags := 0x411 }
/-- [I -/
def k8 : Class := { plain "[I" (some 0) with kind := .array 7 .int, interfaces := #[3, 4], accessFlags := 1041 }

def heap : Heap := #[]
def classes : Array Class := #[k0, k1, k2, k3, k4, k5, k6, k7, k8]
def interned : List (Array UInt16 × Addr) := []
def slotsUsed : Nat := 0
def theMethod : MethodId := ⟨1, 1⟩
def args0 : Array Value := #[.int 5, .int 1, .int 2]
def aboutOver (below : List Frame) : State where
  vm := { classes := classes, interned := interned.toArray }
  heap := heap
  slotsUsed := slotsUsed
  threads := #[{ frames := .invoking theMethod args0 :: below }]
def below0 : List Frame := [.native { method := ⟨0, 0⟩, args := #[] }]
def about1 : State := aboutOver below0
def p0 : Program := .bare "" "" ""
def e0 : Env := launch0.env 0 0 0
theorem w_frames : about1.frames = Frame.invoking theMethod args0 :: below0 := rfl
set_option maxRecDepth 65536 in
theorem w_args : argsFit about1.vm theMethod args0 = true := by decide +kernel
set_option maxRecDepth 65536 in
theorem w_heap : heapFits about1 = true := by decide +kernel
set_option maxRecDepth 65536 in
theorem w_runnable : about1.curStatus? = some .runnable := by decide +kernel
set_option maxRecDepth 65536 in
theorem w_alone : about1.alone = true := by decide +kernel
set_option maxRecDepth 65536 in
theorem w_named : about1.methodNamed? x = some theMethod := by decide +kernel
set_option maxRecDepth 65536 in
theorem w_hears : about1.hears theMethod below0 = true := by decide +kernel
set_option maxRecDepth 65536 in
theorem w_ripe : about1.ripe theMethod args0 below0 = true := by decide +kernel
theorem w_running : about1.status = .running := rfl
set_option maxRecDepth 65536 in
theorem w_room : about1.hasRoom e0.platform room_1 = true :=
  launch0.hasRoom_least _ room_1 (by decide +kernel) (by decide +kernel) (by decide +kernel) (by decide +kernel) (by decide +kernel) (by decide +kernel)
theorem allAtoms_all (ts : List Jvm.Cond) (a : Array Jvm.Value) (st : Jvm.State) : (allAtoms ts).before a st = ts.all (fun c => c.before a st) := by
  induction ts with
  | nil => rfl
  | cons c t ih =>
    show (Jvm.Cond.and c (allAtoms t)).before a st = _
    rw [Jvm.Cond.before_and, ih, List.all_cons]
def words1 : List Jvm.Cond := Jvm.Cond.code x code maxLocals ret :: tables_1
/-- a 'code' word, met by the world's own term for the bytes: nothing is compared byte by byte -/
theorem code_word {y : MethodName} {bytes : ByteArray} {mx : Nat} {rt : Option FieldType} {a : Array Value} {s : State} {m : MethodId} {meth : Method} {c : Code} (h1 : s.methodNamed? y = some m) (h2 : s.vm.method? m = some meth) (h3 : meth.code = some c) (h4 : c.code = bytes)
    (h5 : (c.maxLocals == mx && c.exceptionTable.isEmpty && decide (c.maxStack ≤ mostOperands) && decide (meth.sig.returnType = rt) && !meth.locks && decide (parseMethodDescriptor y.desc = some meth.sig)) = true) : (Jvm.Cond.code y bytes mx rt).before a s = true := by
  simp only [Bool.and_eq_true, beq_iff_eq, Bool.not_eq_true', decide_eq_true_eq] at h5
  obtain ⟨⟨⟨⟨⟨g1, g2⟩, g3⟩, g4⟩, g5⟩, g6⟩ := h5
  simp [Cond.before, Cond.holds, Cond.value, h1, h2, h3, h4, g1, g2, g3, g4, g5, g6]
def isCode : Jvm.Cond → Bool
  | .code _ _ _ _ => true
  | _ => false
theorem all_split {L : List Jvm.Cond} {P : Jvm.Cond → Bool} (h1 : L.all (fun c => isCode c || P c) = true) (h2 : ∀ c ∈ L.filter isCode, P c = true) : L.all P = true := by
  refine List.all_eq_true.mpr fun c hc => ?_
  have h := List.all_eq_true.mp h1 c hc
  rcases Bool.eq_false_or_eq_true (isCode c) with hi | hi
  · exact h2 c (List.mem_filter.mpr ⟨hc, hi⟩)
  · simpa [hi] using h
set_option maxRecDepth 65536 in
theorem w_c0 : (Jvm.Cond.code x code maxLocals ret).before args0 about1 = true := code_word (m := ⟨1, 1⟩) (meth := k1m1) (c := k1c1) (by decide +kernel) rfl rfl rfl (by decide +kernel)
set_option maxRecDepth 65536 in
theorem w_c1 : (Jvm.Cond.code ({ cls := "com/example/accordant/accordant/FieldReader", name := "<init>", desc := "([B)V" } : Jvm.MethodName) prog_5_method_1_code (2 : Nat) (Option.none : Option Jvm.ClassFile.FieldType)).before args0 about1 = true := code_word (m := ⟨2, 0⟩) (meth := k2m0) (c := k2c0) (by decide +kernel) rfl rfl rfl (by decide +kernel)
set_option maxRecDepth 65536 in
theorem w_c2 : (Jvm.Cond.code ({ cls := "java/lang/Object", name := "<init>", desc := "()V" } : Jvm.MethodName) object_method_1_code (1 : Nat) (Option.none : Option Jvm.ClassFile.FieldType)).before args0 about1 = true := code_word (m := ⟨0, 0⟩) (meth := k0m0) (c := k0c0) (by decide +kernel) rfl rfl rfl (by decide +kernel)
set_option maxRecDepth 65536 in
theorem w_c3 : (Jvm.Cond.code ({ cls := "com/example/accordant/accordant/FieldReader", name := "atEnd", desc := "()Z" } : Jvm.MethodName) prog_5_method_7_code (1 : Nat) (Option.some Jvm.ClassFile.FieldType.boolean)).before args0 about1 = true := code_word (m := ⟨2, 3⟩) (meth := k2m3) (c := k2c3) (by decide +kernel) rfl rfl rfl (by decide +kernel)
set_option maxRecDepth 65536 in
theorem w_c4 : (Jvm.Cond.code ({ cls := "com/example/accordant/accordant/FieldReader", name := "readBoolean", desc := "()Z" } : Jvm.MethodName) prog_5_method_4_code (2 : Nat) (Option.some Jvm.ClassFile.FieldType.boolean)).before args0 about1 = true := code_word (m := ⟨2, 2⟩) (meth := k2m2) (c := k2c2) (by decide +kernel) rfl rfl rfl (by decide +kernel)
set_option maxRecDepth 65536 in
theorem w_c5 : (Jvm.Cond.code ({ cls := "com/example/accordant/accordant/FieldReader", name := "claim", desc := "(I)V" } : Jvm.MethodName) prog_5_method_8_code (2 : Nat) (Option.none : Option Jvm.ClassFile.FieldType)).before args0 about1 = true := code_word (m := ⟨2, 4⟩) (meth := k2m4) (c := k2c4) (by decide +kernel) rfl rfl rfl (by decide +kernel)
set_option maxRecDepth 65536 in
theorem w_c6 : (Jvm.Cond.code ({ cls := "com/example/accordant/accordant/FieldReader", name := "readInt", desc := "()I" } : Jvm.MethodName) prog_5_method_2_code (2 : Nat) (Option.some Jvm.ClassFile.FieldType.int)).before args0 about1 = true := code_word (m := ⟨2, 1⟩) (meth := k2m1) (c := k2c1) (by decide +kernel) rfl rfl rfl (by decide +kernel)
def codes1 : List Jvm.Cond := [Jvm.Cond.code x code maxLocals ret, Jvm.Cond.code ({ cls := "com/example/accordant/accordant/FieldReader", name := "<init>", desc := "([B)V" } : Jvm.MethodName) prog_5_method_1_code (2 : Nat) (Option.none : Option Jvm.ClassFile.FieldType), Jvm.Cond.code ({ cls := "java/lang/Object", name := "<init>", desc := "()V" } : Jvm.MethodName) object_method_1_code (1 : Nat) (Option.none : Option Jvm.ClassFile.FieldType), Jvm.Cond.code ({ cls := "com/example/accordant/accordant/FieldReader", name := "atEnd", desc := "()Z" } : Jvm.MethodName) prog_5_method_7_code (1 : Nat) (Option.some Jvm.ClassFile.FieldType.boolean), Jvm.Cond.code ({ cls := "com/example/accordant/accordant/FieldReader", name := "readBoolean", desc := "()Z" } : Jvm.MethodName) prog_5_method_4_code (2 : Nat) (Option.some Jvm.ClassFile.FieldType.boolean), Jvm.Cond.code ({ cls := "com/example/accordant/accordant/FieldReader", name := "claim", desc := "(I)V" } : Jvm.MethodName) prog_5_method_8_code (2 : Nat) (Option.none : Option Jvm.ClassFile.FieldType), Jvm.Cond.code ({ cls := "com/example/accordant/accordant/FieldReader", name := "readInt", desc := "()I" } : Jvm.MethodName) prog_5_method_2_code (2 : Nat) (Option.some Jvm.ClassFile.FieldType.int)]
set_option maxRecDepth 65536 in
theorem codes_eq : words1.filter isCode = codes1 := rfl
theorem w_codes : ∀ c ∈ words1.filter isCode, c.before args0 about1 = true := by
  rw [codes_eq]
  intro c hc
  simp only [codes1, List.mem_cons, List.not_mem_nil, or_false] at hc
  rcases hc with rfl | rfl | rfl | rfl | rfl | rfl | rfl
  · exact w_c0
  · exact w_c1
  · exact w_c2
  · exact w_c3
  · exact w_c4
  · exact w_c5
  · exact w_c6
set_option maxRecDepth 65536 in
theorem w_t1 : (words1.take 24).all (fun c => isCode c || c.before args0 about1) = true := by decide +kernel
set_option maxRecDepth 65536 in
theorem w_t2 : (words1.drop 24).all (fun c => isCode c || c.before args0 about1) = true := by decide +kernel
theorem w_tables : (allAtoms (Jvm.Cond.code x code maxLocals ret :: tables_1)).before args0 about1 = true := by
  rw [allAtoms_all]
  show words1.all (fun c => c.before args0 about1) = true
  refine all_split ?_ w_codes
  rw [← List.take_append_drop 24 words1, List.all_append, w_t1, w_t2]
  rfl
set_option maxRecDepth 65536 in
theorem w_case : (Jvm.Cond.and given_1 narrow_1).before args0 about1 = true := by decide +kernel
theorem w_applies : (headSpec (Jvm.Cond.code x code maxLocals ret :: tables_1) room_1).applies x e0.platform about1 = true :=
  (Spec.applies_iff w_frames).mpr ⟨w_running, w_runnable, w_alone, w_named, w_hears, w_ripe, w_room, w_tables⟩
theorem atStart : AtStart classFile x code maxLocals ret World_1 tables_1 room_1 Calls_1 rest_1 Pre_1 launch0 p0 e0 about1 theMethod args0 below0 :=
  ⟨lists_1, trivial, launch0.admits_env _ _ _, launch0.least_env, fairChoices_fair.cas, fairChoices_fair.clock, w_frames, w_args, w_heap, w_applies, trivial, trivial, w_case⟩
end start1
theorem witness_1 : WitnessClaimed_1 := ⟨start1.p0, start1.e0, start1.about1, start1.theMethod, start1.args0, start1.below0, start1.atStart⟩
end Jvm.Pilot.@@N@@
