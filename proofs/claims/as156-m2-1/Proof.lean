import JvmDerived
import JvmDerived.Pilot.@@N@@Statement
import JvmDerived.Pilot.@@N@@Code
set_option linter.unusedVariables false
set_option linter.unusedSimpArgs false
namespace Jvm.RoadKit
open Sem ClassFile Op Lib Jvm.Stand Jvm.Free Jvm.LawKit
section New
variable {p : Program} {l : Launch} {e : Env} {R : Room} {s : State} {m : MethodId} {args : Array Value} {below : List Frame} {meth : Method} {c : Code} {T : State} {locs : List Loc} {cells slots : Nat}
theorem retI (X : Stand p l e R s m args below meth c T locs cells slots) (hx : p.tables.exec = Jvm.exec) {pc : Nat} {Ls : Array Slot} {z : Int32} {rest : List Value} (hret : meth.sig.returnType = some .int) (hd : decode c.code pc = .ok (.ireturn, 1)) {fs : List Frame}
    (hl : ∀ (f : JFrame) (acts : List Action), f.method = m → f.locked = none → f.entered = [] → (doReturn e (T.setTop f) acts (some (.int z))).1 = T.setFrames fs) : Steps p.tables e below (T.setTop (mkF m pc Ls (.int z :: rest))) (T.setFrames fs) := by
  have hm' : T.vm.method? m = some meth := X.method'
  have hn : narrow .int (.int z) = .int z := rfl
  show Steps p.tables e below (T.setTop { method := m, pc := pc, locals := Ls, stack := _ :: rest, locked := none }) _
  jvm_step X.here [X.here.top, hx, hd, hm', hret, hn]
  first | (intro acts; rw [hl _ acts rfl rfl rfl]) | rw [hl _ _ rfl rfl rfl]
  exact Steps.refl _
end New
end Jvm.RoadKit
namespace Jvm.Pilot.@@N@@
open Jvm Jvm.ClassFile Sem Op Lib Jvm.Free Jvm.Stand Jvm.LawKit Jvm.RoadKit Bundle Jvm.Pilot.@@N@@.Jvm.D
/-- a bit as a boolean; a format's version -/
def own_bit (b k : Int32) : Int32 := if (b &&& k) = (0 : Int32) then (0 : Int32) else (1 : Int32)
def own_ver (g f t : Int32) : Int32 := ((((11 : Int32) + (if g = (0 : Int32) then (0 : Int32) else (1 : Int32))) + (if f = (0 : Int32) then (0 : Int32) else (2 : Int32))) + (if t = (0 : Int32) then (0 : Int32) else (4 : Int32)))
theorem own_nar {P : Prop} [Decidable P] {v : Int32} (h : v = if P then (0 : Int32) else (1 : Int32)) : nar .boolean v = v := by
  subst h; split <;> decide
theorem own_narb (b k : Int32) : nar .boolean (own_bit b k) = own_bit b k := own_nar rfl
theorem own_eight (x : Int32) : ∃ k : Fin 8, (x &&& (7 : Int32)) = Int32.ofNat k.val := by
  have h : (x &&& (7 : Int32)).toBitVec.toNat < 8 := by
    show (x.toBitVec &&& 7#32).toNat < 8
    rw [BitVec.toNat_and]
    exact Nat.lt_of_le_of_lt Nat.and_le_right (by decide)
  refine ⟨⟨_, h⟩, ?_⟩
  apply Int32.toBitVec_inj.mp
  show (x &&& 7).toBitVec = BitVec.ofNat 32 (x &&& 7).toBitVec.toNat
  simp
theorem own_all (x b g f t : Int32) (hb : b = x &&& (7 : Int32)) (hg : g = own_bit b 1) (hf : f = own_bit b 2) (ht : t = own_bit b 4) : own_ver g f t = (11 : Int32) + b ∧ ¬ (own_ver g f t < (11 : Int32)) ∧ ¬ ((18 : Int32) < own_ver g f t) ∧ own_bit (own_ver g f t - (11 : Int32)) 1 = g ∧ own_bit (own_ver g f t - (11 : Int32)) 2 = f ∧ own_bit (own_ver g f t - (11 : Int32)) 4 = t := by
  obtain ⟨k, e⟩ := own_eight x
  rw [e] at hb
  clear e
  subst hb hg hf ht
  revert k
  decide
theorem own_d_jdk_30_method_1_0 : decode jdk_30_method_1_code 0 = .ok (.aload_n 0, 1) := by decide +kernel
theorem own_d_jdk_30_method_1_1 : decode jdk_30_method_1_code 1 = .ok (.invokespecial 1, 3) := by decide +kernel
theorem own_d_jdk_30_method_1_4 : decode jdk_30_method_1_code 4 = .ok (.return_, 1) := by decide +kernel
theorem own_pn0 : plainName "java/lang/Record" = true := by first | (simp [plainName, overriddenIn]; done) | decide +kernel
theorem own_ef_rec (m : MethodId) (x0 : Addr) : entryFrame m #[(.ref x0)] 1 = mkF m 0 #[.val (.ref x0)] [] := by first | (simp [entryFrame, mkF, argsToLocals, Value.category]; done) | rfl
def own_Q_rec (Z : State) (a1 : Addr)  (h0 : Heap) (n0 : Nat) (v : Option Value) (h : Heap) (L : List Loc) : Prop := v = none ∧ Fr n0 L ∧ h = h0
set_option maxRecDepth 65536 in
set_option maxHeartbeats 40000000 in
theorem own_rm_rec (l : Launch) (Z : State) (a0 : Array Value) (hw : ∀ d ∈ tables_1, d.before a0 Z = true) (ws : List Jvm.Cond) (a1 : Addr)  (h0 : Heap) (n0 : Nat) (Z0 : n0 ≤ h0.size)  :
    MetFree l (⟨"java/lang/Record", "<init>", "()V"⟩ : MethodName) (head1 (Jvm.Cond.code (⟨"java/lang/Record", "<init>", "()V"⟩ : MethodName) jdk_30_method_1_code 1 none :: ws) ({ frames := 1, cells := 0, slots := 0, locals := 12 } : Room)) (fun a U => a = #[(.ref a1)] ∧ Z.Warmed39 U.vm ∧ U.heap = h0) (fun _ _ _ _ _ => True) (fun _ U o U' => ∃ v L, o = .returned v ∧ own_Q_rec Z a1  h0 n0 v U'.heap L ∧ FrameEnd U o U' L ({ frames := 1, cells := 0, slots := 0, locals := 12 } : Room).cells ({ frames := 1, cells := 0, slots := 0, locals := 12 } : Room).slots) := by
  refine MetFree.of_bodySF (plainFor_of_name own_pn0) hisR ?_
  intro p e s m args below meth c s₁ Bd hml0 hP hK
  obtain ⟨rfl, hZ, hh⟩ := hP
  have hx := Bd.exec
  have hby := Bd.bytes
  have hml : c.maxLocals = 1 := hml0
  have hown : s.vm.findClass "java/lang/Record" = some m.cls := findClass_of_methodNamed Bd.named
  have hnm := (name_of_methodNamed Bd.named Bd.method).1
  have X0 : Stand p l e ({ frames := 1, cells := 0, slots := 0, locals := 12 } : Room) s m #[(.ref a1)] below meth c s₁ [] 0 0 := Stand.of_body Bd
  have e0 : s₁.heap = h0 := by rw [← hh, Bd.state]; rfl
  have N0 := Fr.nil n0
  have pre0 : ∀ t, Steps p.tables e below (s₁.setTop (mkF m 0 #[.val (.ref a1)] [])) t → Steps p.tables e below (s₁.setTop (entryFrame m #[(.ref a1)] 1)) t := fun t k => castTop (own_ef_rec m a1) k
  obtain ⟨T1, X1, e1, st1⟩ := initO X0 hx hZ hown (hw _ (List.mem_of_getElem? (i := 11) rfl)) (hw _ (List.mem_of_getElem? (i := 12) rfl)) (hw _ (List.mem_of_getElem? (i := 13) rfl)) e0 (g := (mkF m 1 #[.val (.ref a1)] [(.ref a1)])) rfl (by rw [hml]; rfl) rfl (hb hby own_d_jdk_30_method_1_1) (by decide) (W := 0) (by show 2 * 0 + _ ≤ _; exact Nat.le_of_eq rfl) (by decide)
  obtain ⟨fs, hr, hrun, hended, hW, hsame⟩ := X1.leave (v := none) (fun _ => rfl)
  refine ⟨_, _, pre0 _ ?_, hrun, hended, _, _, rfl, ?_, ⟨_, rfl⟩, hW, hsame.mono (by decide) (by decide)⟩
  · show Steps p.tables e below (s₁.setTop (mkF m 0 #[.val (.ref a1)] [])) _
    refine XS.aloadN X0.here hx rfl (hb hby own_d_jdk_30_method_1_0) rfl rfl ?_
    show Steps p.tables e below (s₁.setTop (mkF m 1 #[.val (.ref a1)] [(.ref a1)])) _
    refine st1 _ ?_
    show Steps p.tables e below (T1.setTop (mkF m 4 #[.val (.ref a1)] [])) _
    exact X1.returnOut hx Bd.returns (hb hby own_d_jdk_30_method_1_4) hr
  · show own_Q_rec Z a1  h0 n0 _ T1.heap _
    rw [e1]
    exact ⟨rfl, N0, rfl⟩
theorem own_d_prog_46_method_1_0 : decode prog_46_method_1_code 0 = .ok (.aload_n 0, 1) := by decide +kernel
theorem own_d_prog_46_method_1_1 : decode prog_46_method_1_code 1 = .ok (.invokespecial 3, 3) := by decide +kernel
theorem own_pd0 : parseMethodDescriptor "()V" = some ⟨[], none⟩ := by decide +kernel
theorem own_d_prog_46_method_1_4 : decode prog_46_method_1_code 4 = .ok (.aload_n 0, 1) := by decide +kernel
theorem own_d_prog_46_method_1_5 : decode prog_46_method_1_code 5 = .ok (.iload_n 1, 1) := by decide +kernel
theorem own_d_prog_46_method_1_6 : decode prog_46_method_1_code 6 = .ok (.putfield 9, 3) := by decide +kernel
theorem own_d_prog_46_method_1_9 : decode prog_46_method_1_code 9 = .ok (.aload_n 0, 1) := by decide +kernel
theorem own_d_prog_46_method_1_10 : decode prog_46_method_1_code 10 = .ok (.iload_n 2, 1) := by decide +kernel
theorem own_d_prog_46_method_1_11 : decode prog_46_method_1_code 11 = .ok (.putfield 13, 3) := by decide +kernel
theorem own_d_prog_46_method_1_14 : decode prog_46_method_1_code 14 = .ok (.aload_n 0, 1) := by decide +kernel
theorem own_d_prog_46_method_1_15 : decode prog_46_method_1_code 15 = .ok (.iload_n 3, 1) := by decide +kernel
theorem own_d_prog_46_method_1_16 : decode prog_46_method_1_code 16 = .ok (.putfield 16, 3) := by decide +kernel
theorem own_d_prog_46_method_1_19 : decode prog_46_method_1_code 19 = .ok (.return_, 1) := by decide +kernel
theorem own_pn1 : plainName "com/example/rankweave/rankweave/index/IndexFormat" = true := by first | (simp [plainName, overriddenIn]; done) | decide +kernel
theorem own_ef_init (m : MethodId) (x0 : Addr) (x1 : Int32) (x2 : Int32) (x3 : Int32) : entryFrame m #[(.ref x0), (.int x1), (.int x2), (.int x3)] 4 = mkF m 0 #[.val (.ref x0), .val (.int x1), .val (.int x2), .val (.int x3)] [] := by first | (simp [entryFrame, mkF, argsToLocals, Value.category]; done) | rfl
def own_Q_init (Z : State) (a1 : Addr) (p1 : Int32) (p2 : Int32) (p3 : Int32)  (h0 : Heap) (n0 : Nat) (v : Option Value) (h : Heap) (L : List Loc) : Prop := v = none ∧ Fr n0 L ∧ Exa Z h a1 "com/example/rankweave/rankweave/index/IndexFormat" ∧ Fld Z h a1 "com/example/rankweave/rankweave/index/IndexFormat" "graph" "Z" (.int p1) ∧ Fld Z h a1 "com/example/rankweave/rankweave/index/IndexFormat" "fields" "Z" (.int p2) ∧ Fld Z h a1 "com/example/rankweave/rankweave/index/IndexFormat" "tokens" "Z" (.int p3) ∧ n0 ≤ h.size
set_option maxRecDepth 65536 in
set_option maxHeartbeats 40000000 in
theorem own_rm_init (l : Launch) (Z : State) (a0 : Array Value) (hw : ∀ d ∈ tables_1, d.before a0 Z = true) (ws : List Jvm.Cond) (a1 : Addr) (p1 : Int32) (p2 : Int32) (p3 : Int32)  (h0 : Heap) (n0 : Nat) (Z0 : n0 ≤ h0.size) (E0 : Exa Z h0 a1 "com/example/rankweave/rankweave/index/IndexFormat") (F0graph : Fld Z h0 a1 "com/example/rankweave/rankweave/index/IndexFormat" "graph" "Z" (.int (0 : Int32))) (F0fields : Fld Z h0 a1 "com/example/rankweave/rankweave/index/IndexFormat" "fields" "Z" (.int (0 : Int32))) (F0tokens : Fld Z h0 a1 "com/example/rankweave/rankweave/index/IndexFormat" "tokens" "Z" (.int (0 : Int32))) (g0 : n0 ≤ a1) (b1 : nar .boolean p1 = p1) (b2 : nar .boolean p2 = p2) (b3 : nar .boolean p3 = p3) :
    MetFree l (⟨"com/example/rankweave/rankweave/index/IndexFormat", "<init>", "(ZZZ)V"⟩ : MethodName) (head1 (Jvm.Cond.code (⟨"com/example/rankweave/rankweave/index/IndexFormat", "<init>", "(ZZZ)V"⟩ : MethodName) prog_46_method_1_code 4 none :: ws) ({ frames := 2, cells := 0, slots := 0, locals := 24 } : Room)) (fun a U => a = #[(.ref a1), (.int p1), (.int p2), (.int p3)] ∧ Z.Warmed39 U.vm ∧ U.heap = h0) (fun _ _ _ _ _ => True) (fun _ U o U' => ∃ v L, o = .returned v ∧ own_Q_init Z a1 p1 p2 p3  h0 n0 v U'.heap L ∧ FrameEnd U o U' L ({ frames := 2, cells := 0, slots := 0, locals := 24 } : Room).cells ({ frames := 2, cells := 0, slots := 0, locals := 24 } : Room).slots) := by
  refine MetFree.of_bodySF (plainFor_of_name own_pn1) hisR ?_
  intro p e s m args below meth c s₁ Bd hml0 hP hK
  obtain ⟨rfl, hZ, hh⟩ := hP
  have hx := Bd.exec
  have hby := Bd.bytes
  have hml : c.maxLocals = 4 := hml0
  have hown : s.vm.findClass "com/example/rankweave/rankweave/index/IndexFormat" = some m.cls := findClass_of_methodNamed Bd.named
  have hnm := (name_of_methodNamed Bd.named Bd.method).1
  have X0 : Stand p l e ({ frames := 2, cells := 0, slots := 0, locals := 24 } : Room) s m #[(.ref a1), (.int p1), (.int p2), (.int p3)] below meth c s₁ [] 0 0 := Stand.of_body Bd
  have e0 : s₁.heap = h0 := by rw [← hh, Bd.state]; rfl
  have N0 := Fr.nil n0
  have pre0 : ∀ t, Steps p.tables e below (s₁.setTop (mkF m 0 #[.val (.ref a1), .val (.int p1), .val (.int p2), .val (.int p3)] [])) t → Steps p.tables e below (s₁.setTop (entryFrame m #[(.ref a1), (.int p1), (.int p2), (.int p3)] 4)) t := fun t k => castTop (own_ef_init m a1 p1 p2 p3) k
  obtain ⟨_, _, ⟨T1, L1, k1, n1⟩, -, X1, ⟨Lc1, hQ1, l1, y1, z1⟩, st1⟩ := X0.specialBack hx (y := (⟨"java/lang/Record", "<init>", "()V"⟩ : MethodName)) rfl hown (mvT hZ (hw _ (List.mem_of_getElem? (i := 6) rfl))) (mvT hZ (hw _ (List.mem_of_getElem? (i := 7) rfl))) (mvT hZ (hw _ (List.mem_of_getElem? (i := 10) rfl))) (by decide) (backOf (W := 0) (own_rm_rec l Z a0 hw [] a1 h0 n0 Z0) hZ (hw _ (List.mem_of_getElem? (i := 10) rfl)) (hw _ (List.mem_of_getElem? (i := 9) rfl)) (by decide) (by decide)) (g := (mkF m 1 #[.val (.ref a1), .val (.int p1), .val (.int p2), .val (.int p3)] [(.ref a1)])) rfl (by rw [hml]; rfl) (Steps.refl _) (a := a1) (argsL := []) (rest := []) (lenOf own_pd0 rfl) rfl (by show 2 * 0 + _ ≤ _; exact Nat.le_of_eq rfl) (hb hby own_d_prog_46_method_1_1) (fun _ _ => ⟨rfl, e0, (by decide : 0 + 0 ≤ _), (by decide : 0 + 0 ≤ _)⟩)
  dsimp only [Pt.U, Pt.locs, Pt.cells, Pt.slots] at X1 l1 y1 z1 st1 hQ1
  subst l1 y1 z1
  obtain ⟨rfl, N1q, e1q⟩ := hQ1
  have N1 := Fr.app N0 N1q
  have E1_a1 : Exa Z T1.heap a1 "com/example/rankweave/rankweave/index/IndexFormat" := by rw [e1q]; exact E0
  have Fs1_a1_graph : Fld Z T1.heap a1 "com/example/rankweave/rankweave/index/IndexFormat" "graph" "Z" (.int (0 : Int32)) := by rw [e1q]; exact F0graph
  have Fs1_a1_fields : Fld Z T1.heap a1 "com/example/rankweave/rankweave/index/IndexFormat" "fields" "Z" (.int (0 : Int32)) := by rw [e1q]; exact F0fields
  have Fs1_a1_tokens : Fld Z T1.heap a1 "com/example/rankweave/rankweave/index/IndexFormat" "tokens" "Z" (.int (0 : Int32)) := by rw [e1q]; exact F0tokens
  have Z1 : n0 ≤ T1.heap.size := by rw [e1q]; exact Z0
  obtain ⟨T2, h2, X2, e2, W2, st2⟩ := putFN X1 hx hZ hown (hw _ (List.mem_of_getElem? (i := 14) rfl)) Via.refl rfl Fs1_a1_graph E1_a1 (Or.inr ⟨(hw _ (List.mem_of_getElem? (i := 15) rfl)), rfl, hnm⟩) (hw _ (List.mem_of_getElem? (i := 1) rfl)) (ty := .boolean) (v := (.int p1)) (v' := .int (nar .boolean p1)) (by decide) rfl (fits_nar_bool _) (g := (mkF m 6 #[.val (.ref a1), .val (.int p1), .val (.int p2), .val (.int p3)] [(.int p1), (.ref a1)])) rfl rfl (hb hby own_d_prog_46_method_1_6)
  have E2_a1 := E1_a1.wr W2
  have Fw2_a1_graph := Fs1_a1_graph.same W2
  have Fw2_a1_fields := Fs1_a1_fields.other W2 (Or.inr (slot_ne (Or.inr (hw _ (List.mem_of_getElem? (i := 17) rfl))) (Or.inr (hw _ (List.mem_of_getElem? (i := 15) rfl))) (by decide) (t := .boolean) (t' := .boolean) (by decide) (by decide)))
  have Fw2_a1_tokens := Fs1_a1_tokens.other W2 (Or.inr (slot_ne (Or.inr (hw _ (List.mem_of_getElem? (i := 19) rfl))) (Or.inr (hw _ (List.mem_of_getElem? (i := 15) rfl))) (by decide) (t := .boolean) (t' := .boolean) (by decide) (by decide)))
  have N2 := Fr.snoc X2 N1 g0
  have Z2 := Nat.le_trans Z1 (Keep.of_wr W2).1
  obtain ⟨T3, h3, X3, e3, W3, st3⟩ := putFN X2 hx hZ hown (hw _ (List.mem_of_getElem? (i := 16) rfl)) Via.refl e2 Fw2_a1_fields E2_a1 (Or.inr ⟨(hw _ (List.mem_of_getElem? (i := 17) rfl)), rfl, hnm⟩) (hw _ (List.mem_of_getElem? (i := 1) rfl)) (ty := .boolean) (v := (.int p2)) (v' := .int (nar .boolean p2)) (by decide) rfl (fits_nar_bool _) (g := (mkF m 11 #[.val (.ref a1), .val (.int p1), .val (.int p2), .val (.int p3)] [(.int p2), (.ref a1)])) rfl rfl (hb hby own_d_prog_46_method_1_11)
  have E3_a1 := E2_a1.wr W3
  have Fw3_a1_graph := Fw2_a1_graph.other W3 (Or.inr (slot_ne (Or.inr (hw _ (List.mem_of_getElem? (i := 15) rfl))) (Or.inr (hw _ (List.mem_of_getElem? (i := 17) rfl))) (by decide) (t := .boolean) (t' := .boolean) (by decide) (by decide)))
  have Fw3_a1_fields := Fw2_a1_fields.same W3
  have Fw3_a1_tokens := Fw2_a1_tokens.other W3 (Or.inr (slot_ne (Or.inr (hw _ (List.mem_of_getElem? (i := 19) rfl))) (Or.inr (hw _ (List.mem_of_getElem? (i := 17) rfl))) (by decide) (t := .boolean) (t' := .boolean) (by decide) (by decide)))
  have N3 := Fr.snoc X3 N2 g0
  have Z3 := Nat.le_trans Z2 (Keep.of_wr W3).1
  obtain ⟨T4, h4, X4, e4, W4, st4⟩ := putFN X3 hx hZ hown (hw _ (List.mem_of_getElem? (i := 18) rfl)) Via.refl e3 Fw3_a1_tokens E3_a1 (Or.inr ⟨(hw _ (List.mem_of_getElem? (i := 19) rfl)), rfl, hnm⟩) (hw _ (List.mem_of_getElem? (i := 1) rfl)) (ty := .boolean) (v := (.int p3)) (v' := .int (nar .boolean p3)) (by decide) rfl (fits_nar_bool _) (g := (mkF m 16 #[.val (.ref a1), .val (.int p1), .val (.int p2), .val (.int p3)] [(.int p3), (.ref a1)])) rfl rfl (hb hby own_d_prog_46_method_1_16)
  have E4_a1 := E3_a1.wr W4
  have Fw4_a1_graph := Fw3_a1_graph.other W4 (Or.inr (slot_ne (Or.inr (hw _ (List.mem_of_getElem? (i := 15) rfl))) (Or.inr (hw _ (List.mem_of_getElem? (i := 19) rfl))) (by decide) (t := .boolean) (t' := .boolean) (by decide) (by decide)))
  have Fw4_a1_fields := Fw3_a1_fields.other W4 (Or.inr (slot_ne (Or.inr (hw _ (List.mem_of_getElem? (i := 17) rfl))) (Or.inr (hw _ (List.mem_of_getElem? (i := 19) rfl))) (by decide) (t := .boolean) (t' := .boolean) (by decide) (by decide)))
  have Fw4_a1_tokens := Fw3_a1_tokens.same W4
  have N4 := Fr.snoc X4 N3 g0
  have Z4 := Nat.le_trans Z3 (Keep.of_wr W4).1
  obtain ⟨fs, hr, hrun, hended, hW, hsame⟩ := X4.leave (v := none) (fun _ => rfl)
  refine ⟨_, _, pre0 _ ?_, hrun, hended, _, _, rfl, ?_, ⟨_, rfl⟩, hW, hsame.mono (by decide) (by decide)⟩
  · show Steps p.tables e below (s₁.setTop (mkF m 0 #[.val (.ref a1), .val (.int p1), .val (.int p2), .val (.int p3)] [])) _
    refine XS.aloadN X0.here hx rfl (hb hby own_d_prog_46_method_1_0) rfl rfl ?_
    show Steps p.tables e below (s₁.setTop (mkF m 1 #[.val (.ref a1), .val (.int p1), .val (.int p2), .val (.int p3)] [(.ref a1)])) _
    refine st1.trans ?_
    show Steps p.tables e below (T1.setTop (mkF m 4 #[.val (.ref a1), .val (.int p1), .val (.int p2), .val (.int p3)] [])) _
    refine XS.aloadN X1.here hx rfl (hb hby own_d_prog_46_method_1_4) rfl rfl ?_
    show Steps p.tables e below (T1.setTop (mkF m 5 #[.val (.ref a1), .val (.int p1), .val (.int p2), .val (.int p3)] [(.ref a1)])) _
    refine XS.iloadN X1.here hx rfl (hb hby own_d_prog_46_method_1_5) rfl ?_
    show Steps p.tables e below (T1.setTop (mkF m 6 #[.val (.ref a1), .val (.int p1), .val (.int p2), .val (.int p3)] [(.int p1), (.ref a1)])) _
    refine st2 _ ?_
    show Steps p.tables e below (T2.setTop (mkF m 9 #[.val (.ref a1), .val (.int p1), .val (.int p2), .val (.int p3)] [])) _
    refine XS.aloadN X2.here hx rfl (hb hby own_d_prog_46_method_1_9) rfl rfl ?_
    show Steps p.tables e below (T2.setTop (mkF m 10 #[.val (.ref a1), .val (.int p1), .val (.int p2), .val (.int p3)] [(.ref a1)])) _
    refine XS.iloadN X2.here hx rfl (hb hby own_d_prog_46_method_1_10) rfl ?_
    show Steps p.tables e below (T2.setTop (mkF m 11 #[.val (.ref a1), .val (.int p1), .val (.int p2), .val (.int p3)] [(.int p2), (.ref a1)])) _
    refine st3 _ ?_
    show Steps p.tables e below (T3.setTop (mkF m 14 #[.val (.ref a1), .val (.int p1), .val (.int p2), .val (.int p3)] [])) _
    refine XS.aloadN X3.here hx rfl (hb hby own_d_prog_46_method_1_14) rfl rfl ?_
    show Steps p.tables e below (T3.setTop (mkF m 15 #[.val (.ref a1), .val (.int p1), .val (.int p2), .val (.int p3)] [(.ref a1)])) _
    refine XS.iloadN X3.here hx rfl (hb hby own_d_prog_46_method_1_15) rfl ?_
    show Steps p.tables e below (T3.setTop (mkF m 16 #[.val (.ref a1), .val (.int p1), .val (.int p2), .val (.int p3)] [(.int p3), (.ref a1)])) _
    refine st4 _ ?_
    show Steps p.tables e below (T4.setTop (mkF m 19 #[.val (.ref a1), .val (.int p1), .val (.int p2), .val (.int p3)] [])) _
    exact X4.returnOut hx Bd.returns (hb hby own_d_prog_46_method_1_19) hr
  · show own_Q_init Z a1 p1 p2 p3  h0 n0 _ T4.heap _
    rw [e4]
    exact ⟨rfl, N4, E4_a1, (by have q := Fw4_a1_graph; rw [b1] at q; exact q), (by have q := Fw4_a1_fields; rw [b2] at q; exact q), (by have q := Fw4_a1_tokens; rw [b3] at q; exact q), Z4⟩
theorem own_d_prog_46_method_3_0 : decode prog_46_method_3_code 0 = .ok (.bipush 11, 2) := by decide +kernel
theorem own_d_prog_46_method_3_2 : decode prog_46_method_3_code 2 = .ok (.aload_n 0, 1) := by decide +kernel
theorem own_d_prog_46_method_3_3 : decode prog_46_method_3_code 3 = .ok (.getfield 9, 3) := by decide +kernel
theorem own_d_prog_46_method_3_6 : decode prog_46_method_3_code 6 = .ok (.ifCond .eq 7, 3) := by decide +kernel
theorem own_d_prog_46_method_3_13 : decode prog_46_method_3_code 13 = .ok (.iconst 0, 1) := by decide +kernel
theorem own_d_prog_46_method_3_9 : decode prog_46_method_3_code 9 = .ok (.iconst 1, 1) := by decide +kernel
theorem own_d_prog_46_method_3_10 : decode prog_46_method_3_code 10 = .ok (.goto 4, 3) := by decide +kernel
theorem own_d_prog_46_method_3_14 : decode prog_46_method_3_code 14 = .ok (.iadd, 1) := by decide +kernel
theorem own_d_prog_46_method_3_15 : decode prog_46_method_3_code 15 = .ok (.aload_n 0, 1) := by decide +kernel
theorem own_d_prog_46_method_3_16 : decode prog_46_method_3_code 16 = .ok (.getfield 13, 3) := by decide +kernel
theorem own_d_prog_46_method_3_19 : decode prog_46_method_3_code 19 = .ok (.ifCond .eq 7, 3) := by decide +kernel
theorem own_d_prog_46_method_3_26 : decode prog_46_method_3_code 26 = .ok (.iconst 0, 1) := by decide +kernel
theorem own_d_prog_46_method_3_22 : decode prog_46_method_3_code 22 = .ok (.iconst 2, 1) := by decide +kernel
theorem own_d_prog_46_method_3_23 : decode prog_46_method_3_code 23 = .ok (.goto 4, 3) := by decide +kernel
theorem own_d_prog_46_method_3_27 : decode prog_46_method_3_code 27 = .ok (.iadd, 1) := by decide +kernel
theorem own_d_prog_46_method_3_28 : decode prog_46_method_3_code 28 = .ok (.aload_n 0, 1) := by decide +kernel
theorem own_d_prog_46_method_3_29 : decode prog_46_method_3_code 29 = .ok (.getfield 16, 3) := by decide +kernel
theorem own_d_prog_46_method_3_32 : decode prog_46_method_3_code 32 = .ok (.ifCond .eq 7, 3) := by decide +kernel
theorem own_d_prog_46_method_3_39 : decode prog_46_method_3_code 39 = .ok (.iconst 0, 1) := by decide +kernel
theorem own_d_prog_46_method_3_35 : decode prog_46_method_3_code 35 = .ok (.iconst 4, 1) := by decide +kernel
theorem own_d_prog_46_method_3_36 : decode prog_46_method_3_code 36 = .ok (.goto 4, 3) := by decide +kernel
theorem own_d_prog_46_method_3_40 : decode prog_46_method_3_code 40 = .ok (.iadd, 1) := by decide +kernel
theorem own_d_prog_46_method_3_41 : decode prog_46_method_3_code 41 = .ok (.ireturn, 1) := by decide +kernel
theorem own_ef_ver (m : MethodId) (x0 : Addr) : entryFrame m #[(.ref x0)] 1 = mkF m 0 #[.val (.ref x0)] [] := by first | (simp [entryFrame, mkF, argsToLocals, Value.category]; done) | rfl
def own_Q_ver (Z : State) (a1 : Addr) (g f t : Int32) (h0 : Heap) (n0 : Nat) (v : Option Value) (h : Heap) (L : List Loc) : Prop := v = some (.int (own_ver g f t)) ∧ Fr n0 L ∧ h = h0
set_option maxRecDepth 65536 in
set_option maxHeartbeats 40000000 in
theorem own_rm_ver (l : Launch) (Z : State) (a0 : Array Value) (hw : ∀ d ∈ tables_1, d.before a0 Z = true) (ws : List Jvm.Cond) (a1 : Addr) (g f t : Int32) (h0 : Heap) (n0 : Nat) (Z0 : n0 ≤ h0.size) (F0graph : Fld Z h0 a1 "com/example/rankweave/rankweave/index/IndexFormat" "graph" "Z" (.int g)) (F0fields : Fld Z h0 a1 "com/example/rankweave/rankweave/index/IndexFormat" "fields" "Z" (.int f)) (F0tokens : Fld Z h0 a1 "com/example/rankweave/rankweave/index/IndexFormat" "tokens" "Z" (.int t)) :
    MetFree l (⟨"com/example/rankweave/rankweave/index/IndexFormat", "version", "()I"⟩ : MethodName) (head1 (Jvm.Cond.code (⟨"com/example/rankweave/rankweave/index/IndexFormat", "version", "()I"⟩ : MethodName) prog_46_method_3_code 1 (some .int) :: ws) ({ frames := 0, cells := 0, slots := 0, locals := 0 } : Room)) (fun a U => a = #[(.ref a1)] ∧ Z.Warmed39 U.vm ∧ U.heap = h0) (fun _ _ _ _ _ => True) (fun _ U o U' => ∃ v L, o = .returned v ∧ own_Q_ver Z a1 g f t h0 n0 v U'.heap L ∧ FrameEnd U o U' L ({ frames := 0, cells := 0, slots := 0, locals := 0 } : Room).cells ({ frames := 0, cells := 0, slots := 0, locals := 0 } : Room).slots) := by
  refine MetFree.of_bodySF (plainFor_of_name own_pn1) hisR ?_
  intro p e s m args below meth c s₁ Bd hml0 hP hK
  obtain ⟨rfl, hZ, hh⟩ := hP
  have hx := Bd.exec
  have hby := Bd.bytes
  have hml : c.maxLocals = 1 := hml0
  have hown : s.vm.findClass "com/example/rankweave/rankweave/index/IndexFormat" = some m.cls := findClass_of_methodNamed Bd.named
  have hnm := (name_of_methodNamed Bd.named Bd.method).1
  have X0 : Stand p l e ({ frames := 0, cells := 0, slots := 0, locals := 0 } : Room) s m #[(.ref a1)] below meth c s₁ [] 0 0 := Stand.of_body Bd
  have e0 : s₁.heap = h0 := by rw [← hh, Bd.state]; rfl
  have N0 := Fr.nil n0
  have pre0 : ∀ t, Steps p.tables e below (s₁.setTop (mkF m 0 #[.val (.ref a1)] [])) t → Steps p.tables e below (s₁.setTop (entryFrame m #[(.ref a1)] 1)) t := fun t k => castTop (own_ef_ver m a1) k
  obtain ⟨T1, X1, e1, st1⟩ := getF X0 hx hZ hown (host := "") (Or.inl (hw _ (List.mem_of_getElem? (i := 14) rfl))) Via.refl e0 F0graph (g := (mkF m 3 #[.val (.ref a1)] [(.ref a1), (.int (11 : Int32))])) rfl rfl (hb hby own_d_prog_46_method_3_3)
  obtain ⟨v2, hv2⟩ : ∃ z : Int32, z = (if g = (0 : Int32) then (0 : Int32) else (1 : Int32)) := ⟨_, rfl⟩
  obtain ⟨T3, X3, e3, st3⟩ := getF X1 hx hZ hown (host := "") (Or.inl (hw _ (List.mem_of_getElem? (i := 16) rfl))) Via.refl e1 F0fields (g := (mkF m 16 #[.val (.ref a1)] [(.ref a1), (.int ((11 : Int32) + v2))])) rfl rfl (hb hby own_d_prog_46_method_3_16)
  obtain ⟨v4, hv4⟩ : ∃ z : Int32, z = (if f = (0 : Int32) then (0 : Int32) else (2 : Int32)) := ⟨_, rfl⟩
  obtain ⟨T5, X5, e5, st5⟩ := getF X3 hx hZ hown (host := "") (Or.inl (hw _ (List.mem_of_getElem? (i := 18) rfl))) Via.refl e3 F0tokens (g := (mkF m 29 #[.val (.ref a1)] [(.ref a1), (.int (((11 : Int32) + v2) + v4))])) rfl rfl (hb hby own_d_prog_46_method_3_29)
  obtain ⟨v6, hv6⟩ : ∃ z : Int32, z = (if t = (0 : Int32) then (0 : Int32) else (4 : Int32)) := ⟨_, rfl⟩
  obtain ⟨fs, hr, hrun, hended, hW, hsame⟩ := X5.leave (v := some (.int ((((11 : Int32) + v2) + v4) + v6))) (fun h => by rw [Bd.returns] at h; cases h)
  refine ⟨_, _, pre0 _ ?_, hrun, hended, _, _, rfl, ?_, ⟨_, rfl⟩, hW, hsame.mono (by decide) (by decide)⟩
  · show Steps p.tables e below (s₁.setTop (mkF m 0 #[.val (.ref a1)] [])) _
    refine XS.bipush X0.here hx rfl (hb hby own_d_prog_46_method_3_0) ?_
    show Steps p.tables e below (s₁.setTop (mkF m 2 #[.val (.ref a1)] [(.int (11 : Int32))])) _
    refine XS.aloadN X0.here hx rfl (hb hby own_d_prog_46_method_3_2) rfl rfl ?_
    show Steps p.tables e below (s₁.setTop (mkF m 3 #[.val (.ref a1)] [(.ref a1), (.int (11 : Int32))])) _
    refine st1 _ ?_
    suffices J6 : Steps p.tables e below (T1.setTop (mkF m 14 #[.val (.ref a1)] [(.int v2), (.int (11 : Int32))])) (T5.setFrames fs) by
      by_cases hc6 : g = (0 : Int32)
      · rw [hv2, if_pos hc6] at J6
        show Steps p.tables e below (T1.setTop (mkF m 6 #[.val (.ref a1)] [(.int g), (.int (11 : Int32))])) _
        refine XS.ifYes X1.here hx rfl (pc0 := 6) (pc' := 13) rfl (hb hby own_d_prog_46_method_3_6) rfl ((if0 _ _).trans (teq hc6).1) (by decide) (by decide) ?_
        show Steps p.tables e below (T1.setTop (mkF m 13 #[.val (.ref a1)] [(.int (11 : Int32))])) _
        refine XS.iconst X1.here hx rfl (hb hby own_d_prog_46_method_3_13) ?_
        exact J6
      · rw [hv2, if_neg hc6] at J6
        show Steps p.tables e below (T1.setTop (mkF m 6 #[.val (.ref a1)] [(.int g), (.int (11 : Int32))])) _
        refine XS.ifNo X1.here hx rfl (hb hby own_d_prog_46_method_3_6) rfl ((if0 _ _).trans (feq hc6).1) ?_
        show Steps p.tables e below (T1.setTop (mkF m 9 #[.val (.ref a1)] [(.int (11 : Int32))])) _
        refine XS.iconst X1.here hx rfl (hb hby own_d_prog_46_method_3_9) ?_
        show Steps p.tables e below (T1.setTop (mkF m 10 #[.val (.ref a1)] [(.int (1 : Int32)), (.int (11 : Int32))])) _
        refine XS.goto X1.here hx rfl (pc0 := 10) (pc' := 14) rfl (hb hby own_d_prog_46_method_3_10) (by decide) (by decide) ?_
        exact J6
    show Steps p.tables e below (T1.setTop (mkF m 14 #[.val (.ref a1)] [(.int v2), (.int (11 : Int32))])) _
    refine XS.iadd X1.here hx rfl (hb hby own_d_prog_46_method_3_14) rfl ?_
    show Steps p.tables e below (T1.setTop (mkF m 15 #[.val (.ref a1)] [(.int ((11 : Int32) + v2))])) _
    refine XS.aloadN X1.here hx rfl (hb hby own_d_prog_46_method_3_15) rfl rfl ?_
    show Steps p.tables e below (T1.setTop (mkF m 16 #[.val (.ref a1)] [(.ref a1), (.int ((11 : Int32) + v2))])) _
    refine st3 _ ?_
    suffices J19 : Steps p.tables e below (T3.setTop (mkF m 27 #[.val (.ref a1)] [(.int v4), (.int ((11 : Int32) + v2))])) (T5.setFrames fs) by
      by_cases hc19 : f = (0 : Int32)
      · rw [hv4, if_pos hc19] at J19
        show Steps p.tables e below (T3.setTop (mkF m 19 #[.val (.ref a1)] [(.int f), (.int ((11 : Int32) + v2))])) _
        refine XS.ifYes X3.here hx rfl (pc0 := 19) (pc' := 26) rfl (hb hby own_d_prog_46_method_3_19) rfl ((if0 _ _).trans (teq hc19).1) (by decide) (by decide) ?_
        show Steps p.tables e below (T3.setTop (mkF m 26 #[.val (.ref a1)] [(.int ((11 : Int32) + v2))])) _
        refine XS.iconst X3.here hx rfl (hb hby own_d_prog_46_method_3_26) ?_
        exact J19
      · rw [hv4, if_neg hc19] at J19
        show Steps p.tables e below (T3.setTop (mkF m 19 #[.val (.ref a1)] [(.int f), (.int ((11 : Int32) + v2))])) _
        refine XS.ifNo X3.here hx rfl (hb hby own_d_prog_46_method_3_19) rfl ((if0 _ _).trans (feq hc19).1) ?_
        show Steps p.tables e below (T3.setTop (mkF m 22 #[.val (.ref a1)] [(.int ((11 : Int32) + v2))])) _
        refine XS.iconst X3.here hx rfl (hb hby own_d_prog_46_method_3_22) ?_
        show Steps p.tables e below (T3.setTop (mkF m 23 #[.val (.ref a1)] [(.int (2 : Int32)), (.int ((11 : Int32) + v2))])) _
        refine XS.goto X3.here hx rfl (pc0 := 23) (pc' := 27) rfl (hb hby own_d_prog_46_method_3_23) (by decide) (by decide) ?_
        exact J19
    show Steps p.tables e below (T3.setTop (mkF m 27 #[.val (.ref a1)] [(.int v4), (.int ((11 : Int32) + v2))])) _
    refine XS.iadd X3.here hx rfl (hb hby own_d_prog_46_method_3_27) rfl ?_
    show Steps p.tables e below (T3.setTop (mkF m 28 #[.val (.ref a1)] [(.int (((11 : Int32) + v2) + v4))])) _
    refine XS.aloadN X3.here hx rfl (hb hby own_d_prog_46_method_3_28) rfl rfl ?_
    show Steps p.tables e below (T3.setTop (mkF m 29 #[.val (.ref a1)] [(.ref a1), (.int (((11 : Int32) + v2) + v4))])) _
    refine st5 _ ?_
    suffices J32 : Steps p.tables e below (T5.setTop (mkF m 40 #[.val (.ref a1)] [(.int v6), (.int (((11 : Int32) + v2) + v4))])) (T5.setFrames fs) by
      by_cases hc32 : t = (0 : Int32)
      · rw [hv6, if_pos hc32] at J32
        show Steps p.tables e below (T5.setTop (mkF m 32 #[.val (.ref a1)] [(.int t), (.int (((11 : Int32) + v2) + v4))])) _
        refine XS.ifYes X5.here hx rfl (pc0 := 32) (pc' := 39) rfl (hb hby own_d_prog_46_method_3_32) rfl ((if0 _ _).trans (teq hc32).1) (by decide) (by decide) ?_
        show Steps p.tables e below (T5.setTop (mkF m 39 #[.val (.ref a1)] [(.int (((11 : Int32) + v2) + v4))])) _
        refine XS.iconst X5.here hx rfl (hb hby own_d_prog_46_method_3_39) ?_
        exact J32
      · rw [hv6, if_neg hc32] at J32
        show Steps p.tables e below (T5.setTop (mkF m 32 #[.val (.ref a1)] [(.int t), (.int (((11 : Int32) + v2) + v4))])) _
        refine XS.ifNo X5.here hx rfl (hb hby own_d_prog_46_method_3_32) rfl ((if0 _ _).trans (feq hc32).1) ?_
        show Steps p.tables e below (T5.setTop (mkF m 35 #[.val (.ref a1)] [(.int (((11 : Int32) + v2) + v4))])) _
        refine XS.iconst X5.here hx rfl (hb hby own_d_prog_46_method_3_35) ?_
        show Steps p.tables e below (T5.setTop (mkF m 36 #[.val (.ref a1)] [(.int (4 : Int32)), (.int (((11 : Int32) + v2) + v4))])) _
        refine XS.goto X5.here hx rfl (pc0 := 36) (pc' := 40) rfl (hb hby own_d_prog_46_method_3_36) (by decide) (by decide) ?_
        exact J32
    show Steps p.tables e below (T5.setTop (mkF m 40 #[.val (.ref a1)] [(.int v6), (.int (((11 : Int32) + v2) + v4))])) _
    refine XS.iadd X5.here hx rfl (hb hby own_d_prog_46_method_3_40) rfl ?_
    show Steps p.tables e below (T5.setTop (mkF m 41 #[.val (.ref a1)] [(.int ((((11 : Int32) + v2) + v4) + v6))])) _
    exact retI X5 hx Bd.returns (hb hby own_d_prog_46_method_3_41) hr
  · show own_Q_ver Z a1 g f t h0 n0 _ T5.heap _
    rw [e5]
    exact ⟨(by rw [hv2, hv4, hv6]; rfl), N0, rfl⟩
theorem own_d_prog_46_method_4_0 : decode prog_46_method_4_code 0 = .ok (.iload_n 0, 1) := by decide +kernel
theorem own_d_prog_46_method_4_1 : decode prog_46_method_4_code 1 = .ok (.bipush 11, 2) := by decide +kernel
theorem own_d_prog_46_method_4_3 : decode prog_46_method_4_code 3 = .ok (.if_icmp .lt 9, 3) := by decide +kernel
theorem own_d_prog_46_method_4_6 : decode prog_46_method_4_code 6 = .ok (.iload_n 0, 1) := by decide +kernel
theorem own_d_prog_46_method_4_7 : decode prog_46_method_4_code 7 = .ok (.bipush 18, 2) := by decide +kernel
theorem own_d_prog_46_method_4_9 : decode prog_46_method_4_code 9 = .ok (.if_icmp .le 5, 3) := by decide +kernel
theorem own_d_prog_46_method_4_14 : decode prog_46_method_4_code 14 = .ok (.iload_n 0, 1) := by decide +kernel
theorem own_d_prog_46_method_4_15 : decode prog_46_method_4_code 15 = .ok (.bipush 11, 2) := by decide +kernel
theorem own_d_prog_46_method_4_17 : decode prog_46_method_4_code 17 = .ok (.isub, 1) := by decide +kernel
theorem own_d_prog_46_method_4_18 : decode prog_46_method_4_code 18 = .ok (.istore_n 1, 1) := by decide +kernel
theorem own_d_prog_46_method_4_19 : decode prog_46_method_4_code 19 = .ok (.new 1, 3) := by decide +kernel
theorem own_d_prog_46_method_4_22 : decode prog_46_method_4_code 22 = .ok (.dup, 1) := by decide +kernel
theorem own_d_prog_46_method_4_23 : decode prog_46_method_4_code 23 = .ok (.iload_n 1, 1) := by decide +kernel
theorem own_d_prog_46_method_4_24 : decode prog_46_method_4_code 24 = .ok (.iconst 1, 1) := by decide +kernel
theorem own_d_prog_46_method_4_25 : decode prog_46_method_4_code 25 = .ok (.iand, 1) := by decide +kernel
theorem own_d_prog_46_method_4_26 : decode prog_46_method_4_code 26 = .ok (.ifCond .eq 7, 3) := by decide +kernel
theorem own_d_prog_46_method_4_33 : decode prog_46_method_4_code 33 = .ok (.iconst 0, 1) := by decide +kernel
theorem own_d_prog_46_method_4_29 : decode prog_46_method_4_code 29 = .ok (.iconst 1, 1) := by decide +kernel
theorem own_d_prog_46_method_4_30 : decode prog_46_method_4_code 30 = .ok (.goto 4, 3) := by decide +kernel
theorem own_d_prog_46_method_4_34 : decode prog_46_method_4_code 34 = .ok (.iload_n 1, 1) := by decide +kernel
theorem own_d_prog_46_method_4_35 : decode prog_46_method_4_code 35 = .ok (.iconst 2, 1) := by decide +kernel
theorem own_d_prog_46_method_4_36 : decode prog_46_method_4_code 36 = .ok (.iand, 1) := by decide +kernel
theorem own_d_prog_46_method_4_37 : decode prog_46_method_4_code 37 = .ok (.ifCond .eq 7, 3) := by decide +kernel
theorem own_d_prog_46_method_4_44 : decode prog_46_method_4_code 44 = .ok (.iconst 0, 1) := by decide +kernel
theorem own_d_prog_46_method_4_40 : decode prog_46_method_4_code 40 = .ok (.iconst 1, 1) := by decide +kernel
theorem own_d_prog_46_method_4_41 : decode prog_46_method_4_code 41 = .ok (.goto 4, 3) := by decide +kernel
theorem own_d_prog_46_method_4_45 : decode prog_46_method_4_code 45 = .ok (.iload_n 1, 1) := by decide +kernel
theorem own_d_prog_46_method_4_46 : decode prog_46_method_4_code 46 = .ok (.iconst 4, 1) := by decide +kernel
theorem own_d_prog_46_method_4_47 : decode prog_46_method_4_code 47 = .ok (.iand, 1) := by decide +kernel
theorem own_d_prog_46_method_4_48 : decode prog_46_method_4_code 48 = .ok (.ifCond .eq 7, 3) := by decide +kernel
theorem own_d_prog_46_method_4_55 : decode prog_46_method_4_code 55 = .ok (.iconst 0, 1) := by decide +kernel
theorem own_d_prog_46_method_4_51 : decode prog_46_method_4_code 51 = .ok (.iconst 1, 1) := by decide +kernel
theorem own_d_prog_46_method_4_52 : decode prog_46_method_4_code 52 = .ok (.goto 4, 3) := by decide +kernel
theorem own_d_prog_46_method_4_56 : decode prog_46_method_4_code 56 = .ok (.invokespecial 19, 3) := by decide +kernel
theorem own_pd1 : parseMethodDescriptor "(ZZZ)V" = some ⟨[.boolean, .boolean, .boolean], none⟩ := by decide +kernel
theorem own_d_prog_46_method_4_59 : decode prog_46_method_4_code 59 = .ok (.areturn, 1) := by decide +kernel
theorem own_ef_read (m : MethodId) (x0 : Int32) : entryFrame m #[(.int x0)] 2 = mkF m 0 #[.val (.int x0), .unset] [] := by first | (simp [entryFrame, mkF, argsToLocals, Value.category]; done) | rfl
def own_Q_read (Z : State) (p1 : Int32)  (h0 : Heap) (n0 : Nat) (v : Option Value) (h : Heap) (L : List Loc) : Prop := v = some (.ref h0.size) ∧ Fr n0 L ∧ n0 ≤ h0.size ∧ Exa Z h h0.size "com/example/rankweave/rankweave/index/IndexFormat" ∧ Fld Z h h0.size "com/example/rankweave/rankweave/index/IndexFormat" "graph" "Z" (.int (own_bit (p1 - (11 : Int32)) 1)) ∧ Fld Z h h0.size "com/example/rankweave/rankweave/index/IndexFormat" "fields" "Z" (.int (own_bit (p1 - (11 : Int32)) 2)) ∧ Fld Z h h0.size "com/example/rankweave/rankweave/index/IndexFormat" "tokens" "Z" (.int (own_bit (p1 - (11 : Int32)) 4)) ∧ n0 ≤ h.size
set_option maxRecDepth 65536 in
set_option maxHeartbeats 40000000 in
theorem own_rm_read (l : Launch) (Z : State) (a0 : Array Value) (hw : ∀ d ∈ tables_1, d.before a0 Z = true) (ws : List Jvm.Cond) (p1 : Int32)  (h0 : Heap) (n0 : Nat) (Z0 : n0 ≤ h0.size) (hlo : ¬ (p1 < (11 : Int32))) (hhi : ¬ ((18 : Int32) < p1)) :
    MetFree l (⟨"com/example/rankweave/rankweave/index/IndexFormat", "read", "(I)Lcom/example/rankweave/rankweave/index/IndexFormat;"⟩ : MethodName) (head1 (Jvm.Cond.code (⟨"com/example/rankweave/rankweave/index/IndexFormat", "read", "(I)Lcom/example/rankweave/rankweave/index/IndexFormat;"⟩ : MethodName) prog_46_method_4_code 2 (some (.object "com/example/rankweave/rankweave/index/IndexFormat")) :: ws) ({ frames := 3, cells := 1, slots := 3, locals := 40 } : Room)) (fun a U => a = #[(.int p1)] ∧ Z.Warmed39 U.vm ∧ U.heap = h0) (fun _ _ _ _ _ => True) (fun _ U o U' => ∃ v L, o = .returned v ∧ own_Q_read Z p1  h0 n0 v U'.heap L ∧ FrameEnd U o U' L ({ frames := 3, cells := 1, slots := 3, locals := 40 } : Room).cells ({ frames := 3, cells := 1, slots := 3, locals := 40 } : Room).slots) := by
  refine MetFree.of_bodySF (plainFor_of_name own_pn1) hisR ?_
  intro p e s m args below meth c s₁ Bd hml0 hP hK
  obtain ⟨rfl, hZ, hh⟩ := hP
  have hx := Bd.exec
  have hby := Bd.bytes
  have hml : c.maxLocals = 2 := hml0
  have hown : s.vm.findClass "com/example/rankweave/rankweave/index/IndexFormat" = some m.cls := findClass_of_methodNamed Bd.named
  have hnm := (name_of_methodNamed Bd.named Bd.method).1
  have X0 : Stand p l e ({ frames := 3, cells := 1, slots := 3, locals := 40 } : Room) s m #[(.int p1)] below meth c s₁ [] 0 0 := Stand.of_body Bd
  have e0 : s₁.heap = h0 := by rw [← hh, Bd.state]; rfl
  have N0 := Fr.nil n0
  have pre0 : ∀ t, Steps p.tables e below (s₁.setTop (mkF m 0 #[.val (.int p1), .unset] [])) t → Steps p.tables e below (s₁.setTop (entryFrame m #[(.int p1)] 2)) t := fun t k => castTop (own_ef_read m p1) k
  obtain ⟨T1, h1, X1, e1, E1, A1, D1, -, st1⟩ := newO X0 hx hZ hown (hw _ (List.mem_of_getElem? (i := 28) rfl)) (hw _ (List.mem_of_getElem? (i := 1) rfl)) (hw _ (List.mem_of_getElem? (i := 2) rfl)) e0 (g := (mkF m 19 #[.val (.int p1), .val (.int (p1 - (11 : Int32)))] [])) rfl (hb hby own_d_prog_46_method_4_19) (by decide) (by decide)
  obtain ⟨b1, g1⟩ : ∃ z, z = h0.size := ⟨_, rfl⟩
  rw [← g1] at A1 D1 st1
  have g_b1 : n0 ≤ b1 := Nat.le_trans Z0 (Nat.le_of_eq g1.symm)
  have Z1 := Nat.le_trans Z0 E1.1
  have F1_graph : Fld Z h1 b1 "com/example/rankweave/rankweave/index/IndexFormat" "graph" "Z" (.int (0 : Int32)) := D1 (Or.inr (hw _ (List.mem_of_getElem? (i := 15) rfl))) (ty := .boolean) (by decide)
  have F1_fields : Fld Z h1 b1 "com/example/rankweave/rankweave/index/IndexFormat" "fields" "Z" (.int (0 : Int32)) := D1 (Or.inr (hw _ (List.mem_of_getElem? (i := 17) rfl))) (ty := .boolean) (by decide)
  have F1_tokens : Fld Z h1 b1 "com/example/rankweave/rankweave/index/IndexFormat" "tokens" "Z" (.int (0 : Int32)) := D1 (Or.inr (hw _ (List.mem_of_getElem? (i := 19) rfl))) (ty := .boolean) (by decide)
  obtain ⟨v2, hv2⟩ : ∃ z : Int32, z = (if ((p1 - (11 : Int32)) &&& (1 : Int32)) = (0 : Int32) then (0 : Int32) else (1 : Int32)) := ⟨_, rfl⟩
  obtain ⟨v3, hv3⟩ : ∃ z : Int32, z = (if ((p1 - (11 : Int32)) &&& (2 : Int32)) = (0 : Int32) then (0 : Int32) else (1 : Int32)) := ⟨_, rfl⟩
  obtain ⟨v4, hv4⟩ : ∃ z : Int32, z = (if ((p1 - (11 : Int32)) &&& (4 : Int32)) = (0 : Int32) then (0 : Int32) else (1 : Int32)) := ⟨_, rfl⟩
  obtain ⟨_, _, ⟨T5, L5, k5, n5⟩, -, X5, ⟨Lc5, hQ5, l5, y5, z5⟩, st5⟩ := X1.specialBack hx (y := (⟨"com/example/rankweave/rankweave/index/IndexFormat", "<init>", "(ZZZ)V"⟩ : MethodName)) rfl hown (mvT hZ (hw _ (List.mem_of_getElem? (i := 29) rfl))) (mvT hZ (hw _ (List.mem_of_getElem? (i := 4) rfl))) (mvT hZ (hw _ (List.mem_of_getElem? (i := 5) rfl))) (by decide) (backOf (W := 1) (own_rm_init l Z a0 hw [] b1 v2 v3 v4 h1 n0 Z1 A1 F1_graph F1_fields F1_tokens g_b1 (own_nar hv2) (own_nar hv3) (own_nar hv4)) hZ (hw _ (List.mem_of_getElem? (i := 5) rfl)) (hw _ (List.mem_of_getElem? (i := 2) rfl)) (by decide) (by decide)) (g := (mkF m 56 #[.val (.int p1), .val (.int (p1 - (11 : Int32)))] [(.int v4), (.int v3), (.int v2), (.ref b1), (.ref b1)])) rfl (by rw [hml]; rfl) (Steps.refl _) (a := b1) (argsL := [(.int v2), (.int v3), (.int v4)]) (rest := [(.ref b1)]) (lenOf own_pd1 rfl) rfl (by show 2 * 0 + _ ≤ _; exact Nat.le_of_eq rfl) (hb hby own_d_prog_46_method_4_56) (fun _ _ => ⟨rfl, e1, (by decide : 1 + 0 ≤ _), (by decide : 3 + 0 ≤ _)⟩)
  dsimp only [Pt.U, Pt.locs, Pt.cells, Pt.slots] at X5 l5 y5 z5 st5 hQ5
  subst l5 y5 z5
  obtain ⟨rfl, N5q, Eq5, Fgraph5, Ffields5, Ftokens5, Zq5⟩ := hQ5
  have N5 := Fr.app N0 N5q
  obtain ⟨fs, hr, hrun, hended, hW, hsame⟩ := X5.leave (v := some (.ref b1)) (fun h => by rw [Bd.returns] at h; cases h)
  refine ⟨_, _, pre0 _ ?_, hrun, hended, _, _, rfl, ?_, ⟨_, rfl⟩, hW, hsame.mono (by decide) (by decide)⟩
  · show Steps p.tables e below (s₁.setTop (mkF m 0 #[.val (.int p1), .unset] [])) _
    refine XS.iloadN X0.here hx rfl (hb hby own_d_prog_46_method_4_0) rfl ?_
    show Steps p.tables e below (s₁.setTop (mkF m 1 #[.val (.int p1), .unset] [(.int p1)])) _
    refine XS.bipush X0.here hx rfl (hb hby own_d_prog_46_method_4_1) ?_
    show Steps p.tables e below (s₁.setTop (mkF m 3 #[.val (.int p1), .unset] [(.int (11 : Int32)), (.int p1)])) _
    refine XS.icmpNo X0.here hx rfl (hb hby own_d_prog_46_method_4_3) rfl (flt hlo).1 ?_
    show Steps p.tables e below (s₁.setTop (mkF m 6 #[.val (.int p1), .unset] [])) _
    refine XS.iloadN X0.here hx rfl (hb hby own_d_prog_46_method_4_6) rfl ?_
    show Steps p.tables e below (s₁.setTop (mkF m 7 #[.val (.int p1), .unset] [(.int p1)])) _
    refine XS.bipush X0.here hx rfl (hb hby own_d_prog_46_method_4_7) ?_
    show Steps p.tables e below (s₁.setTop (mkF m 9 #[.val (.int p1), .unset] [(.int (18 : Int32)), (.int p1)])) _
    refine XS.icmpYes X0.here hx rfl (pc0 := 9) (pc' := 14) rfl (hb hby own_d_prog_46_method_4_9) rfl (flt hhi).2.2.2 (by decide) (by decide) ?_
    show Steps p.tables e below (s₁.setTop (mkF m 14 #[.val (.int p1), .unset] [])) _
    refine XS.iloadN X0.here hx rfl (hb hby own_d_prog_46_method_4_14) rfl ?_
    show Steps p.tables e below (s₁.setTop (mkF m 15 #[.val (.int p1), .unset] [(.int p1)])) _
    refine XS.bipush X0.here hx rfl (hb hby own_d_prog_46_method_4_15) ?_
    show Steps p.tables e below (s₁.setTop (mkF m 17 #[.val (.int p1), .unset] [(.int (11 : Int32)), (.int p1)])) _
    refine XS.isub X0.here hx rfl (hb hby own_d_prog_46_method_4_17) rfl ?_
    show Steps p.tables e below (s₁.setTop (mkF m 18 #[.val (.int p1), .unset] [(.int (p1 - (11 : Int32)))])) _
    refine XS.istoreN X0.here hx rfl (hb hby own_d_prog_46_method_4_18) rfl (l' := #[.val (.int p1), .val (.int (p1 - (11 : Int32)))]) rfl ?_
    show Steps p.tables e below (s₁.setTop (mkF m 19 #[.val (.int p1), .val (.int (p1 - (11 : Int32)))] [])) _
    refine st1 _ ?_
    show Steps p.tables e below (T1.setTop (mkF m 22 #[.val (.int p1), .val (.int (p1 - (11 : Int32)))] [(.ref b1)])) _
    refine XS.dup X1.here hx rfl (hb hby own_d_prog_46_method_4_22) rfl rfl ?_
    show Steps p.tables e below (T1.setTop (mkF m 23 #[.val (.int p1), .val (.int (p1 - (11 : Int32)))] [(.ref b1), (.ref b1)])) _
    refine XS.iloadN X1.here hx rfl (hb hby own_d_prog_46_method_4_23) rfl ?_
    show Steps p.tables e below (T1.setTop (mkF m 24 #[.val (.int p1), .val (.int (p1 - (11 : Int32)))] [(.int (p1 - (11 : Int32))), (.ref b1), (.ref b1)])) _
    refine XS.iconst X1.here hx rfl (hb hby own_d_prog_46_method_4_24) ?_
    show Steps p.tables e below (T1.setTop (mkF m 25 #[.val (.int p1), .val (.int (p1 - (11 : Int32)))] [(.int (1 : Int32)), (.int (p1 - (11 : Int32))), (.ref b1), (.ref b1)])) _
    refine XS.iand X1.here hx rfl (hb hby own_d_prog_46_method_4_25) rfl ?_
    suffices J26 : Steps p.tables e below (T1.setTop (mkF m 34 #[.val (.int p1), .val (.int (p1 - (11 : Int32)))] [(.int v2), (.ref b1), (.ref b1)])) (T5.setFrames fs) by
      by_cases hc26 : ((p1 - (11 : Int32)) &&& (1 : Int32)) = (0 : Int32)
      · rw [hv2, if_pos hc26] at J26
        show Steps p.tables e below (T1.setTop (mkF m 26 #[.val (.int p1), .val (.int (p1 - (11 : Int32)))] [(.int ((p1 - (11 : Int32)) &&& (1 : Int32))), (.ref b1), (.ref b1)])) _
        refine XS.ifYes X1.here hx rfl (pc0 := 26) (pc' := 33) rfl (hb hby own_d_prog_46_method_4_26) rfl ((if0 _ _).trans (teq hc26).1) (by decide) (by decide) ?_
        show Steps p.tables e below (T1.setTop (mkF m 33 #[.val (.int p1), .val (.int (p1 - (11 : Int32)))] [(.ref b1), (.ref b1)])) _
        refine XS.iconst X1.here hx rfl (hb hby own_d_prog_46_method_4_33) ?_
        exact J26
      · rw [hv2, if_neg hc26] at J26
        show Steps p.tables e below (T1.setTop (mkF m 26 #[.val (.int p1), .val (.int (p1 - (11 : Int32)))] [(.int ((p1 - (11 : Int32)) &&& (1 : Int32))), (.ref b1), (.ref b1)])) _
        refine XS.ifNo X1.here hx rfl (hb hby own_d_prog_46_method_4_26) rfl ((if0 _ _).trans (feq hc26).1) ?_
        show Steps p.tables e below (T1.setTop (mkF m 29 #[.val (.int p1), .val (.int (p1 - (11 : Int32)))] [(.ref b1), (.ref b1)])) _
        refine XS.iconst X1.here hx rfl (hb hby own_d_prog_46_method_4_29) ?_
        show Steps p.tables e below (T1.setTop (mkF m 30 #[.val (.int p1), .val (.int (p1 - (11 : Int32)))] [(.int (1 : Int32)), (.ref b1), (.ref b1)])) _
        refine XS.goto X1.here hx rfl (pc0 := 30) (pc' := 34) rfl (hb hby own_d_prog_46_method_4_30) (by decide) (by decide) ?_
        exact J26
    show Steps p.tables e below (T1.setTop (mkF m 34 #[.val (.int p1), .val (.int (p1 - (11 : Int32)))] [(.int v2), (.ref b1), (.ref b1)])) _
    refine XS.iloadN X1.here hx rfl (hb hby own_d_prog_46_method_4_34) rfl ?_
    show Steps p.tables e below (T1.setTop (mkF m 35 #[.val (.int p1), .val (.int (p1 - (11 : Int32)))] [(.int (p1 - (11 : Int32))), (.int v2), (.ref b1), (.ref b1)])) _
    refine XS.iconst X1.here hx rfl (hb hby own_d_prog_46_method_4_35) ?_
    show Steps p.tables e below (T1.setTop (mkF m 36 #[.val (.int p1), .val (.int (p1 - (11 : Int32)))] [(.int (2 : Int32)), (.int (p1 - (11 : Int32))), (.int v2), (.ref b1), (.ref b1)])) _
    refine XS.iand X1.here hx rfl (hb hby own_d_prog_46_method_4_36) rfl ?_
    suffices J37 : Steps p.tables e below (T1.setTop (mkF m 45 #[.val (.int p1), .val (.int (p1 - (11 : Int32)))] [(.int v3), (.int v2), (.ref b1), (.ref b1)])) (T5.setFrames fs) by
      by_cases hc37 : ((p1 - (11 : Int32)) &&& (2 : Int32)) = (0 : Int32)
      · rw [hv3, if_pos hc37] at J37
        show Steps p.tables e below (T1.setTop (mkF m 37 #[.val (.int p1), .val (.int (p1 - (11 : Int32)))] [(.int ((p1 - (11 : Int32)) &&& (2 : Int32))), (.int v2), (.ref b1), (.ref b1)])) _
        refine XS.ifYes X1.here hx rfl (pc0 := 37) (pc' := 44) rfl (hb hby own_d_prog_46_method_4_37) rfl ((if0 _ _).trans (teq hc37).1) (by decide) (by decide) ?_
        show Steps p.tables e below (T1.setTop (mkF m 44 #[.val (.int p1), .val (.int (p1 - (11 : Int32)))] [(.int v2), (.ref b1), (.ref b1)])) _
        refine XS.iconst X1.here hx rfl (hb hby own_d_prog_46_method_4_44) ?_
        exact J37
      · rw [hv3, if_neg hc37] at J37
        show Steps p.tables e below (T1.setTop (mkF m 37 #[.val (.int p1), .val (.int (p1 - (11 : Int32)))] [(.int ((p1 - (11 : Int32)) &&& (2 : Int32))), (.int v2), (.ref b1), (.ref b1)])) _
        refine XS.ifNo X1.here hx rfl (hb hby own_d_prog_46_method_4_37) rfl ((if0 _ _).trans (feq hc37).1) ?_
        show Steps p.tables e below (T1.setTop (mkF m 40 #[.val (.int p1), .val (.int (p1 - (11 : Int32)))] [(.int v2), (.ref b1), (.ref b1)])) _
        refine XS.iconst X1.here hx rfl (hb hby own_d_prog_46_method_4_40) ?_
        show Steps p.tables e below (T1.setTop (mkF m 41 #[.val (.int p1), .val (.int (p1 - (11 : Int32)))] [(.int (1 : Int32)), (.int v2), (.ref b1), (.ref b1)])) _
        refine XS.goto X1.here hx rfl (pc0 := 41) (pc' := 45) rfl (hb hby own_d_prog_46_method_4_41) (by decide) (by decide) ?_
        exact J37
    show Steps p.tables e below (T1.setTop (mkF m 45 #[.val (.int p1), .val (.int (p1 - (11 : Int32)))] [(.int v3), (.int v2), (.ref b1), (.ref b1)])) _
    refine XS.iloadN X1.here hx rfl (hb hby own_d_prog_46_method_4_45) rfl ?_
    show Steps p.tables e below (T1.setTop (mkF m 46 #[.val (.int p1), .val (.int (p1 - (11 : Int32)))] [(.int (p1 - (11 : Int32))), (.int v3), (.int v2), (.ref b1), (.ref b1)])) _
    refine XS.iconst X1.here hx rfl (hb hby own_d_prog_46_method_4_46) ?_
    show Steps p.tables e below (T1.setTop (mkF m 47 #[.val (.int p1), .val (.int (p1 - (11 : Int32)))] [(.int (4 : Int32)), (.int (p1 - (11 : Int32))), (.int v3), (.int v2), (.ref b1), (.ref b1)])) _
    refine XS.iand X1.here hx rfl (hb hby own_d_prog_46_method_4_47) rfl ?_
    suffices J48 : Steps p.tables e below (T1.setTop (mkF m 56 #[.val (.int p1), .val (.int (p1 - (11 : Int32)))] [(.int v4), (.int v3), (.int v2), (.ref b1), (.ref b1)])) (T5.setFrames fs) by
      by_cases hc48 : ((p1 - (11 : Int32)) &&& (4 : Int32)) = (0 : Int32)
      · rw [hv4, if_pos hc48] at J48
        show Steps p.tables e below (T1.setTop (mkF m 48 #[.val (.int p1), .val (.int (p1 - (11 : Int32)))] [(.int ((p1 - (11 : Int32)) &&& (4 : Int32))), (.int v3), (.int v2), (.ref b1), (.ref b1)])) _
        refine XS.ifYes X1.here hx rfl (pc0 := 48) (pc' := 55) rfl (hb hby own_d_prog_46_method_4_48) rfl ((if0 _ _).trans (teq hc48).1) (by decide) (by decide) ?_
        show Steps p.tables e below (T1.setTop (mkF m 55 #[.val (.int p1), .val (.int (p1 - (11 : Int32)))] [(.int v3), (.int v2), (.ref b1), (.ref b1)])) _
        refine XS.iconst X1.here hx rfl (hb hby own_d_prog_46_method_4_55) ?_
        exact J48
      · rw [hv4, if_neg hc48] at J48
        show Steps p.tables e below (T1.setTop (mkF m 48 #[.val (.int p1), .val (.int (p1 - (11 : Int32)))] [(.int ((p1 - (11 : Int32)) &&& (4 : Int32))), (.int v3), (.int v2), (.ref b1), (.ref b1)])) _
        refine XS.ifNo X1.here hx rfl (hb hby own_d_prog_46_method_4_48) rfl ((if0 _ _).trans (feq hc48).1) ?_
        show Steps p.tables e below (T1.setTop (mkF m 51 #[.val (.int p1), .val (.int (p1 - (11 : Int32)))] [(.int v3), (.int v2), (.ref b1), (.ref b1)])) _
        refine XS.iconst X1.here hx rfl (hb hby own_d_prog_46_method_4_51) ?_
        show Steps p.tables e below (T1.setTop (mkF m 52 #[.val (.int p1), .val (.int (p1 - (11 : Int32)))] [(.int (1 : Int32)), (.int v3), (.int v2), (.ref b1), (.ref b1)])) _
        refine XS.goto X1.here hx rfl (pc0 := 52) (pc' := 56) rfl (hb hby own_d_prog_46_method_4_52) (by decide) (by decide) ?_
        exact J48
    show Steps p.tables e below (T1.setTop (mkF m 56 #[.val (.int p1), .val (.int (p1 - (11 : Int32)))] [(.int v4), (.int v3), (.int v2), (.ref b1), (.ref b1)])) _
    refine st5.trans ?_
    show Steps p.tables e below (T5.setTop (mkF m 59 #[.val (.int p1), .val (.int (p1 - (11 : Int32)))] [(.ref b1)])) _
    exact retOut X5 hx Bd.returns rfl (Or.inr (Or.inr (Or.inr (Or.inr ⟨rfl, rfl, rfl⟩)))) (hb hby own_d_prog_46_method_4_59) hr
  · show own_Q_read Z p1  h0 n0 _ T5.heap _
    exact ⟨(by rw [g1]), N5, Z0, (by have q := Eq5; rw [g1] at q; exact q), (by have q := Fgraph5; rw [g1, hv2] at q; exact q), (by have q := Ffields5; rw [g1, hv3] at q; exact q), (by have q := Ftokens5; rw [g1, hv4] at q; exact q), Zq5⟩
theorem own_d_prog_46_method_9_0 : decode prog_46_method_9_code 0 = .ok (.aload_n 0, 1) := by decide +kernel
theorem own_d_prog_46_method_9_1 : decode prog_46_method_9_code 1 = .ok (.getfield 9, 3) := by decide +kernel
theorem own_d_prog_46_method_9_4 : decode prog_46_method_9_code 4 = .ok (.ireturn, 1) := by decide +kernel
theorem own_ef_graph (m : MethodId) (x0 : Addr) : entryFrame m #[(.ref x0)] 1 = mkF m 0 #[.val (.ref x0)] [] := by first | (simp [entryFrame, mkF, argsToLocals, Value.category]; done) | rfl
def own_Q_graph (Z : State) (a1 : Addr) (g : Int32) (h0 : Heap) (n0 : Nat) (v : Option Value) (h : Heap) (L : List Loc) : Prop := v = some (.int g) ∧ Fr n0 L ∧ h = h0
set_option maxRecDepth 65536 in
set_option maxHeartbeats 40000000 in
theorem own_rm_graph (l : Launch) (Z : State) (a0 : Array Value) (hw : ∀ d ∈ tables_1, d.before a0 Z = true) (ws : List Jvm.Cond) (a1 : Addr) (g : Int32) (h0 : Heap) (n0 : Nat) (Z0 : n0 ≤ h0.size) (F0 : Fld Z h0 a1 "com/example/rankweave/rankweave/index/IndexFormat" "graph" "Z" (.int g)) (b0 : nar .boolean g = g) :
    MetFree l (⟨"com/example/rankweave/rankweave/index/IndexFormat", "graph", "()Z"⟩ : MethodName) (head1 (Jvm.Cond.code (⟨"com/example/rankweave/rankweave/index/IndexFormat", "graph", "()Z"⟩ : MethodName) prog_46_method_9_code 1 (some .boolean) :: ws) ({ frames := 0, cells := 0, slots := 0, locals := 0 } : Room)) (fun a U => a = #[(.ref a1)] ∧ Z.Warmed39 U.vm ∧ U.heap = h0) (fun _ _ _ _ _ => True) (fun _ U o U' => ∃ v L, o = .returned v ∧ own_Q_graph Z a1 g h0 n0 v U'.heap L ∧ FrameEnd U o U' L ({ frames := 0, cells := 0, slots := 0, locals := 0 } : Room).cells ({ frames := 0, cells := 0, slots := 0, locals := 0 } : Room).slots) := by
  refine MetFree.of_bodySF (plainFor_of_name own_pn1) hisR ?_
  intro p e s m args below meth c s₁ Bd hml0 hP hK
  obtain ⟨rfl, hZ, hh⟩ := hP
  have hx := Bd.exec
  have hby := Bd.bytes
  have hml : c.maxLocals = 1 := hml0
  have hown : s.vm.findClass "com/example/rankweave/rankweave/index/IndexFormat" = some m.cls := findClass_of_methodNamed Bd.named
  have hnm := (name_of_methodNamed Bd.named Bd.method).1
  have X0 : Stand p l e ({ frames := 0, cells := 0, slots := 0, locals := 0 } : Room) s m #[(.ref a1)] below meth c s₁ [] 0 0 := Stand.of_body Bd
  have e0 : s₁.heap = h0 := by rw [← hh, Bd.state]; rfl
  have N0 := Fr.nil n0
  have pre0 : ∀ t, Steps p.tables e below (s₁.setTop (mkF m 0 #[.val (.ref a1)] [])) t → Steps p.tables e below (s₁.setTop (entryFrame m #[(.ref a1)] 1)) t := fun t k => castTop (own_ef_graph m a1) k
  obtain ⟨T1, X1, e1, st1⟩ := getF X0 hx hZ hown (host := "") (Or.inl (hw _ (List.mem_of_getElem? (i := 14) rfl))) Via.refl e0 F0 (g := (mkF m 1 #[.val (.ref a1)] [(.ref a1)])) rfl rfl (hb hby own_d_prog_46_method_9_1)
  obtain ⟨fs, hr, hrun, hended, hW, hsame⟩ := X1.leave (v := some (.int (nar .boolean g))) (fun h => by rw [Bd.returns] at h; cases h)
  refine ⟨_, _, pre0 _ ?_, hrun, hended, _, _, rfl, ?_, ⟨_, rfl⟩, hW, hsame.mono (by decide) (by decide)⟩
  · show Steps p.tables e below (s₁.setTop (mkF m 0 #[.val (.ref a1)] [])) _
    refine XS.aloadN X0.here hx rfl (hb hby own_d_prog_46_method_9_0) rfl rfl ?_
    show Steps p.tables e below (s₁.setTop (mkF m 1 #[.val (.ref a1)] [(.ref a1)])) _
    refine st1 _ ?_
    show Steps p.tables e below (T1.setTop (mkF m 4 #[.val (.ref a1)] [(.int g)])) _
    exact retN X1 hx (t := .boolean) Bd.returns (by simp) (hb hby own_d_prog_46_method_9_4) hr
  · show own_Q_graph Z a1 g h0 n0 _ T1.heap _
    rw [e1]
    exact ⟨(by rw [b0]), N0, rfl⟩
theorem own_d_prog_46_method_10_0 : decode prog_46_method_10_code 0 = .ok (.aload_n 0, 1) := by decide +kernel
theorem own_d_prog_46_method_10_1 : decode prog_46_method_10_code 1 = .ok (.getfield 13, 3) := by decide +kernel
theorem own_d_prog_46_method_10_4 : decode prog_46_method_10_code 4 = .ok (.ireturn, 1) := by decide +kernel
theorem own_ef_fields (m : MethodId) (x0 : Addr) : entryFrame m #[(.ref x0)] 1 = mkF m 0 #[.val (.ref x0)] [] := by first | (simp [entryFrame, mkF, argsToLocals, Value.category]; done) | rfl
def own_Q_fields (Z : State) (a1 : Addr) (g : Int32) (h0 : Heap) (n0 : Nat) (v : Option Value) (h : Heap) (L : List Loc) : Prop := v = some (.int g) ∧ Fr n0 L ∧ h = h0
set_option maxRecDepth 65536 in
set_option maxHeartbeats 40000000 in
theorem own_rm_fields (l : Launch) (Z : State) (a0 : Array Value) (hw : ∀ d ∈ tables_1, d.before a0 Z = true) (ws : List Jvm.Cond) (a1 : Addr) (g : Int32) (h0 : Heap) (n0 : Nat) (Z0 : n0 ≤ h0.size) (F0 : Fld Z h0 a1 "com/example/rankweave/rankweave/index/IndexFormat" "fields" "Z" (.int g)) (b0 : nar .boolean g = g) :
    MetFree l (⟨"com/example/rankweave/rankweave/index/IndexFormat", "fields", "()Z"⟩ : MethodName) (head1 (Jvm.Cond.code (⟨"com/example/rankweave/rankweave/index/IndexFormat", "fields", "()Z"⟩ : MethodName) prog_46_method_10_code 1 (some .boolean) :: ws) ({ frames := 0, cells := 0, slots := 0, locals := 0 } : Room)) (fun a U => a = #[(.ref a1)] ∧ Z.Warmed39 U.vm ∧ U.heap = h0) (fun _ _ _ _ _ => True) (fun _ U o U' => ∃ v L, o = .returned v ∧ own_Q_fields Z a1 g h0 n0 v U'.heap L ∧ FrameEnd U o U' L ({ frames := 0, cells := 0, slots := 0, locals := 0 } : Room).cells ({ frames := 0, cells := 0, slots := 0, locals := 0 } : Room).slots) := by
  refine MetFree.of_bodySF (plainFor_of_name own_pn1) hisR ?_
  intro p e s m args below meth c s₁ Bd hml0 hP hK
  obtain ⟨rfl, hZ, hh⟩ := hP
  have hx := Bd.exec
  have hby := Bd.bytes
  have hml : c.maxLocals = 1 := hml0
  have hown : s.vm.findClass "com/example/rankweave/rankweave/index/IndexFormat" = some m.cls := findClass_of_methodNamed Bd.named
  have hnm := (name_of_methodNamed Bd.named Bd.method).1
  have X0 : Stand p l e ({ frames := 0, cells := 0, slots := 0, locals := 0 } : Room) s m #[(.ref a1)] below meth c s₁ [] 0 0 := Stand.of_body Bd
  have e0 : s₁.heap = h0 := by rw [← hh, Bd.state]; rfl
  have N0 := Fr.nil n0
  have pre0 : ∀ t, Steps p.tables e below (s₁.setTop (mkF m 0 #[.val (.ref a1)] [])) t → Steps p.tables e below (s₁.setTop (entryFrame m #[(.ref a1)] 1)) t := fun t k => castTop (own_ef_fields m a1) k
  obtain ⟨T1, X1, e1, st1⟩ := getF X0 hx hZ hown (host := "") (Or.inl (hw _ (List.mem_of_getElem? (i := 16) rfl))) Via.refl e0 F0 (g := (mkF m 1 #[.val (.ref a1)] [(.ref a1)])) rfl rfl (hb hby own_d_prog_46_method_10_1)
  obtain ⟨fs, hr, hrun, hended, hW, hsame⟩ := X1.leave (v := some (.int (nar .boolean g))) (fun h => by rw [Bd.returns] at h; cases h)
  refine ⟨_, _, pre0 _ ?_, hrun, hended, _, _, rfl, ?_, ⟨_, rfl⟩, hW, hsame.mono (by decide) (by decide)⟩
  · show Steps p.tables e below (s₁.setTop (mkF m 0 #[.val (.ref a1)] [])) _
    refine XS.aloadN X0.here hx rfl (hb hby own_d_prog_46_method_10_0) rfl rfl ?_
    show Steps p.tables e below (s₁.setTop (mkF m 1 #[.val (.ref a1)] [(.ref a1)])) _
    refine st1 _ ?_
    show Steps p.tables e below (T1.setTop (mkF m 4 #[.val (.ref a1)] [(.int g)])) _
    exact retN X1 hx (t := .boolean) Bd.returns (by simp) (hb hby own_d_prog_46_method_10_4) hr
  · show own_Q_fields Z a1 g h0 n0 _ T1.heap _
    rw [e1]
    exact ⟨(by rw [b0]), N0, rfl⟩
theorem own_d_prog_46_method_11_0 : decode prog_46_method_11_code 0 = .ok (.aload_n 0, 1) := by decide +kernel
theorem own_d_prog_46_method_11_1 : decode prog_46_method_11_code 1 = .ok (.getfield 16, 3) := by decide +kernel
theorem own_d_prog_46_method_11_4 : decode prog_46_method_11_code 4 = .ok (.ireturn, 1) := by decide +kernel
theorem own_ef_tokens (m : MethodId) (x0 : Addr) : entryFrame m #[(.ref x0)] 1 = mkF m 0 #[.val (.ref x0)] [] := by first | (simp [entryFrame, mkF, argsToLocals, Value.category]; done) | rfl
def own_Q_tokens (Z : State) (a1 : Addr) (g : Int32) (h0 : Heap) (n0 : Nat) (v : Option Value) (h : Heap) (L : List Loc) : Prop := v = some (.int g) ∧ Fr n0 L ∧ h = h0
set_option maxRecDepth 65536 in
set_option maxHeartbeats 40000000 in
theorem own_rm_tokens (l : Launch) (Z : State) (a0 : Array Value) (hw : ∀ d ∈ tables_1, d.before a0 Z = true) (ws : List Jvm.Cond) (a1 : Addr) (g : Int32) (h0 : Heap) (n0 : Nat) (Z0 : n0 ≤ h0.size) (F0 : Fld Z h0 a1 "com/example/rankweave/rankweave/index/IndexFormat" "tokens" "Z" (.int g)) (b0 : nar .boolean g = g) :
    MetFree l (⟨"com/example/rankweave/rankweave/index/IndexFormat", "tokens", "()Z"⟩ : MethodName) (head1 (Jvm.Cond.code (⟨"com/example/rankweave/rankweave/index/IndexFormat", "tokens", "()Z"⟩ : MethodName) prog_46_method_11_code 1 (some .boolean) :: ws) ({ frames := 0, cells := 0, slots := 0, locals := 0 } : Room)) (fun a U => a = #[(.ref a1)] ∧ Z.Warmed39 U.vm ∧ U.heap = h0) (fun _ _ _ _ _ => True) (fun _ U o U' => ∃ v L, o = .returned v ∧ own_Q_tokens Z a1 g h0 n0 v U'.heap L ∧ FrameEnd U o U' L ({ frames := 0, cells := 0, slots := 0, locals := 0 } : Room).cells ({ frames := 0, cells := 0, slots := 0, locals := 0 } : Room).slots) := by
  refine MetFree.of_bodySF (plainFor_of_name own_pn1) hisR ?_
  intro p e s m args below meth c s₁ Bd hml0 hP hK
  obtain ⟨rfl, hZ, hh⟩ := hP
  have hx := Bd.exec
  have hby := Bd.bytes
  have hml : c.maxLocals = 1 := hml0
  have hown : s.vm.findClass "com/example/rankweave/rankweave/index/IndexFormat" = some m.cls := findClass_of_methodNamed Bd.named
  have hnm := (name_of_methodNamed Bd.named Bd.method).1
  have X0 : Stand p l e ({ frames := 0, cells := 0, slots := 0, locals := 0 } : Room) s m #[(.ref a1)] below meth c s₁ [] 0 0 := Stand.of_body Bd
  have e0 : s₁.heap = h0 := by rw [← hh, Bd.state]; rfl
  have N0 := Fr.nil n0
  have pre0 : ∀ t, Steps p.tables e below (s₁.setTop (mkF m 0 #[.val (.ref a1)] [])) t → Steps p.tables e below (s₁.setTop (entryFrame m #[(.ref a1)] 1)) t := fun t k => castTop (own_ef_tokens m a1) k
  obtain ⟨T1, X1, e1, st1⟩ := getF X0 hx hZ hown (host := "") (Or.inl (hw _ (List.mem_of_getElem? (i := 18) rfl))) Via.refl e0 F0 (g := (mkF m 1 #[.val (.ref a1)] [(.ref a1)])) rfl rfl (hb hby own_d_prog_46_method_11_1)
  obtain ⟨fs, hr, hrun, hended, hW, hsame⟩ := X1.leave (v := some (.int (nar .boolean g))) (fun h => by rw [Bd.returns] at h; cases h)
  refine ⟨_, _, pre0 _ ?_, hrun, hended, _, _, rfl, ?_, ⟨_, rfl⟩, hW, hsame.mono (by decide) (by decide)⟩
  · show Steps p.tables e below (s₁.setTop (mkF m 0 #[.val (.ref a1)] [])) _
    refine XS.aloadN X0.here hx rfl (hb hby own_d_prog_46_method_11_0) rfl rfl ?_
    show Steps p.tables e below (s₁.setTop (mkF m 1 #[.val (.ref a1)] [(.ref a1)])) _
    refine st1 _ ?_
    show Steps p.tables e below (T1.setTop (mkF m 4 #[.val (.ref a1)] [(.int g)])) _
    exact retN X1 hx (t := .boolean) Bd.returns (by simp) (hb hby own_d_prog_46_method_11_4) hr
  · show own_Q_tokens Z a1 g h0 n0 _ T1.heap _
    rw [e1]
    exact ⟨(by rw [b0]), N0, rfl⟩
theorem own_pd2 : parseMethodDescriptor "()I" = some ⟨[], some .int⟩ := by decide +kernel
theorem own_pd3 : parseMethodDescriptor "(I)Lcom/example/rankweave/rankweave/index/IndexFormat;" = some ⟨[.int], some (.object "com/example/rankweave/rankweave/index/IndexFormat")⟩ := by decide +kernel
theorem own_pd4 : parseMethodDescriptor "()Z" = some ⟨[], some .boolean⟩ := by decide +kernel
theorem own_pn2 : plainName "com/example/rankweave/rankweave/index/IndexFormatVersionPinLaw" = true := by first | (simp [plainName, overriddenIn]; done) | decide +kernel
theorem own_ef_law (m : MethodId) (x0 : Int32) : entryFrame m #[(.int x0)] maxLocals = mkF m 0 #[.val (.int x0), .unset, .unset, .unset, .unset, .unset, .unset, .unset] [] := by first | (simp [entryFrame, mkF, argsToLocals, Value.category, maxLocals]; done) | rfl
def own_Q_law (Z : State) (p1 : Int32)  (h0 : Heap) (n0 : Nat) (v : Option Value) (h : Heap) (L : List Loc) : Prop := v = some (.int (1 : Int32)) ∧ Fr n0 L
set_option maxRecDepth 65536 in
set_option maxHeartbeats 40000000 in
theorem own_rm_law (l : Launch) (Z : State) (a0 : Array Value) (hw : ∀ d ∈ tables_1, d.before a0 Z = true) (ws : List Jvm.Cond) (p1 : Int32)  (h0 : Heap) (n0 : Nat) (Z0 : n0 ≤ h0.size)  :
    MetFree l x (head1 (Jvm.Cond.code x code maxLocals ret :: ws) room_1) (fun a U => a = #[(.int p1)] ∧ Z.Warmed39 U.vm ∧ U.heap = h0) (fun _ _ _ _ _ => True) (fun _ U o U' => ∃ v L, o = .returned v ∧ own_Q_law Z p1  h0 n0 v U'.heap L ∧ FrameEnd U o U' L room_1.cells room_1.slots) := by
  refine MetFree.of_bodySF (plainFor_of_name own_pn2) hisR ?_
  intro p e s m args below meth c s₁ Bd hml0 hP hK
  obtain ⟨rfl, hZ, hh⟩ := hP
  have hx := Bd.exec
  have hby := Bd.bytes
  have hml : c.maxLocals = 8 := hml0
  have hown : s.vm.findClass "com/example/rankweave/rankweave/index/IndexFormatVersionPinLaw" = some m.cls := findClass_of_methodNamed Bd.named
  have hnm := (name_of_methodNamed Bd.named Bd.method).1
  have X0 : Stand p l e room_1 s m #[(.int p1)] below meth c s₁ [] 0 0 := Stand.of_body Bd
  have e0 : s₁.heap = h0 := by rw [← hh, Bd.state]; rfl
  have N0 := Fr.nil n0
  have pre0 : ∀ t, Steps p.tables e below (s₁.setTop (mkF m 0 #[.val (.int p1), .unset, .unset, .unset, .unset, .unset, .unset, .unset] [])) t → Steps p.tables e below (s₁.setTop (entryFrame m #[(.int p1)] maxLocals)) t := fun t k => castTop (own_ef_law m p1) k
  obtain ⟨c1, hc1⟩ : ∃ z : Int32, z = (p1 &&& (7 : Int32)) := ⟨_, rfl⟩
  obtain ⟨v2, hv2⟩ : ∃ z : Int32, z = (if (c1 &&& (1 : Int32)) = (0 : Int32) then (0 : Int32) else (1 : Int32)) := ⟨_, rfl⟩
  obtain ⟨v3, hv3⟩ : ∃ z : Int32, z = (if (c1 &&& (2 : Int32)) = (0 : Int32) then (0 : Int32) else (1 : Int32)) := ⟨_, rfl⟩
  obtain ⟨v4, hv4⟩ : ∃ z : Int32, z = (if (c1 &&& (4 : Int32)) = (0 : Int32) then (0 : Int32) else (1 : Int32)) := ⟨_, rfl⟩
  obtain ⟨T5, h5, X5, e5, E5, A5, D5, -, st5⟩ := newO X0 hx hZ hown (hw _ (List.mem_of_getElem? (i := 0) rfl)) (hw _ (List.mem_of_getElem? (i := 1) rfl)) (hw _ (List.mem_of_getElem? (i := 2) rfl)) e0 (g := (mkF m 42 #[.val (.int p1), .val (.int c1), .val (.int v2), .val (.int v3), .val (.int v4), .unset, .unset, .unset] [])) rfl (hb hby at_42) (by decide) (by decide)
  obtain ⟨b5, g5⟩ : ∃ z, z = h0.size := ⟨_, rfl⟩
  rw [← g5] at A5 D5 st5
  have g_b5 : n0 ≤ b5 := Nat.le_trans Z0 (Nat.le_of_eq g5.symm)
  have Z5 := Nat.le_trans Z0 E5.1
  have F5_graph : Fld Z h5 b5 "com/example/rankweave/rankweave/index/IndexFormat" "graph" "Z" (.int (0 : Int32)) := D5 (Or.inr (hw _ (List.mem_of_getElem? (i := 15) rfl))) (ty := .boolean) (by decide)
  have F5_fields : Fld Z h5 b5 "com/example/rankweave/rankweave/index/IndexFormat" "fields" "Z" (.int (0 : Int32)) := D5 (Or.inr (hw _ (List.mem_of_getElem? (i := 17) rfl))) (ty := .boolean) (by decide)
  have F5_tokens : Fld Z h5 b5 "com/example/rankweave/rankweave/index/IndexFormat" "tokens" "Z" (.int (0 : Int32)) := D5 (Or.inr (hw _ (List.mem_of_getElem? (i := 19) rfl))) (ty := .boolean) (by decide)
  obtain ⟨_, _, ⟨T6, L6, k6, n6⟩, -, X6, ⟨Lc6, hQ6, l6, y6, z6⟩, st6⟩ := X5.specialBack hx (y := (⟨"com/example/rankweave/rankweave/index/IndexFormat", "<init>", "(ZZZ)V"⟩ : MethodName)) rfl hown (mvT hZ (hw _ (List.mem_of_getElem? (i := 3) rfl))) (mvT hZ (hw _ (List.mem_of_getElem? (i := 4) rfl))) (mvT hZ (hw _ (List.mem_of_getElem? (i := 5) rfl))) (by decide) (backOf (W := 1) (own_rm_init l Z a0 hw [] b5 v2 v3 v4 h5 n0 Z5 A5 F5_graph F5_fields F5_tokens g_b5 (own_nar hv2) (own_nar hv3) (own_nar hv4)) hZ (hw _ (List.mem_of_getElem? (i := 5) rfl)) (hw _ (List.mem_of_getElem? (i := 2) rfl)) (by decide) (by decide)) (g := (mkF m 50 #[.val (.int p1), .val (.int c1), .val (.int v2), .val (.int v3), .val (.int v4), .unset, .unset, .unset] [(.int v4), (.int v3), (.int v2), (.ref b5), (.ref b5)])) rfl (by rw [hml]; rfl) (Steps.refl _) (a := b5) (argsL := [(.int v2), (.int v3), (.int v4)]) (rest := [(.ref b5)]) (lenOf own_pd1 rfl) rfl (by show 2 * 0 + _ ≤ _; exact Nat.le_of_eq rfl) (hb hby at_50) (fun _ _ => ⟨rfl, e5, (by decide : 1 + 0 ≤ _), (by decide : 3 + 0 ≤ _)⟩)
  dsimp only [Pt.U, Pt.locs, Pt.cells, Pt.slots] at X6 l6 y6 z6 st6 hQ6
  subst l6 y6 z6
  obtain ⟨rfl, N6q, Eq6, Fgraph6, Ffields6, Ftokens6, Zq6⟩ := hQ6
  have N6 := Fr.app N0 N6q
  obtain ⟨cq7, kq7, q7a, q7b, q7c⟩ := isOf hZ rfl Eq6
  obtain ⟨_, _, ⟨T7, L7, k7, n7⟩, -, X7, ⟨Lc7, hQ7, l7, y7, z7⟩, st7⟩ := X6.virtualBack hx (y := (⟨"com/example/rankweave/rankweave/index/IndexFormat", "version", "()I"⟩ : MethodName)) (z := (⟨"com/example/rankweave/rankweave/index/IndexFormat", "version", "()I"⟩ : MethodName)) hown (mvT hZ (hw _ (List.mem_of_getElem? (i := 20) rfl))) (mvT hZ (hw _ (List.mem_of_getElem? (i := 21) rfl))) (notFace_of_selects (args := #[]) (mvT hZ (hw _ (List.mem_of_getElem? (i := 23) rfl)))) (mvT hZ (hw _ (List.mem_of_getElem? (i := 23) rfl))) (mvT hZ (hw _ (List.mem_of_getElem? (i := 22) rfl))) (by decide) (backOf (W := 0) (own_rm_ver l Z a0 hw [] b5 v2 v3 v4 T6.heap n0 Zq6 Fgraph6 Ffields6 Ftokens6) hZ (hw _ (List.mem_of_getElem? (i := 24) rfl)) (hw _ (List.mem_of_getElem? (i := 2) rfl)) (by decide) (by decide)) q7a q7c (g := (mkF m 57 #[.val (.int p1), .val (.int c1), .val (.int v2), .val (.int v3), .val (.int v4), .val (.ref b5), .unset, .unset] [(.ref b5)])) rfl (by rw [hml]; rfl) (Steps.refl _) (argsL := []) (rest := []) (lenOf own_pd2 rfl) rfl (by show 2 * 0 + _ ≤ _; exact Nat.le_of_eq rfl) (hb hby at_57) (fun _ _ => ⟨rfl, rfl, (by decide : 1 + 0 ≤ _), (by decide : 3 + 0 ≤ _)⟩)
  dsimp only [Pt.U, Pt.locs, Pt.cells, Pt.slots] at X7 l7 y7 z7 st7 hQ7
  subst l7 y7 z7
  obtain ⟨rfl, N7q, e7q⟩ := hQ7
  have N7 := Fr.app N6 N7q
  have E7_b5 : Exa Z T7.heap b5 "com/example/rankweave/rankweave/index/IndexFormat" := by rw [e7q]; exact Eq6
  have Fs7_b5_graph : Fld Z T7.heap b5 "com/example/rankweave/rankweave/index/IndexFormat" "graph" "Z" (.int v2) := by rw [e7q]; exact Fgraph6
  have Fs7_b5_fields : Fld Z T7.heap b5 "com/example/rankweave/rankweave/index/IndexFormat" "fields" "Z" (.int v3) := by rw [e7q]; exact Ffields6
  have Fs7_b5_tokens : Fld Z T7.heap b5 "com/example/rankweave/rankweave/index/IndexFormat" "tokens" "Z" (.int v4) := by rw [e7q]; exact Ftokens6
  have Z7 : n0 ≤ T7.heap.size := by rw [e7q]; exact Zq6
  obtain ⟨u8, hu8⟩ : ∃ z : Int32, z = (own_ver v2 v3 v4) := ⟨_, rfl⟩
  rw [← hu8] at st7
  have hA := own_all p1 c1 v2 v3 v4 hc1 hv2 hv3 hv4
  rw [← hu8] at hA
  obtain ⟨_, _, ⟨T9, L9, k9, n9⟩, -, X9, ⟨Lc9, hQ9, l9, y9, z9⟩, st9⟩ := Jvm.LawKit.callS X7 hx (y := (⟨"com/example/rankweave/rankweave/index/IndexFormat", "read", "(I)Lcom/example/rankweave/rankweave/index/IndexFormat;"⟩ : MethodName)) hown (mvT hZ (hw _ (List.mem_of_getElem? (i := 25) rfl))) (mvT hZ (hw _ (List.mem_of_getElem? (i := 26) rfl))) (mvT hZ (hw _ (List.mem_of_getElem? (i := 2) rfl))) (mvT hZ (hw _ (List.mem_of_getElem? (i := 27) rfl))) (by decide) (backOf (W := 0) (own_rm_read l Z a0 hw [] u8 T7.heap n0 Z7 hA.2.1 hA.2.2.1) hZ (hw _ (List.mem_of_getElem? (i := 27) rfl)) (hw _ (List.mem_of_getElem? (i := 2) rfl)) (by decide) (by decide)) (g := (mkF m 75 #[.val (.int p1), .val (.int c1), .val (.int v2), .val (.int v3), .val (.int v4), .val (.ref b5), .val (.int u8), .unset] [(.int u8)])) rfl (by rw [hml]; rfl) (argsL := [(.int u8)]) (rest := []) (lenOf own_pd3 rfl) rfl (by show 2 * 0 + _ ≤ _; exact Nat.le_of_eq rfl) (hb hby at_75) (fun _ _ => ⟨rfl, rfl, (by decide : 1 + 1 ≤ _), (by decide : 3 + 3 ≤ _)⟩)
  dsimp only [Pt.U, Pt.locs, Pt.cells, Pt.slots] at X9 l9 y9 z9 st9 hQ9
  subst l9 y9 z9
  obtain ⟨rfl, N9q, Gq9, Eq9, Fgraph9, Ffields9, Ftokens9, Zq9⟩ := hQ9
  have N9 := Fr.app N7 N9q
  obtain ⟨b10, hb10⟩ : ∃ z : Addr, z = T7.heap.size := ⟨_, rfl⟩
  rw [← hb10] at st9 Gq9 Eq9 Fgraph9 Ffields9 Ftokens9
  obtain ⟨cq11, kq11, q11a, q11b, q11c⟩ := isOf hZ rfl Eq9
  obtain ⟨_, _, ⟨T11, L11, k11, n11⟩, -, X11, ⟨Lc11, hQ11, l11, y11, z11⟩, st11⟩ := X9.virtualBack hx (y := (⟨"com/example/rankweave/rankweave/index/IndexFormat", "graph", "()Z"⟩ : MethodName)) (z := (⟨"com/example/rankweave/rankweave/index/IndexFormat", "graph", "()Z"⟩ : MethodName)) hown (mvT hZ (hw _ (List.mem_of_getElem? (i := 30) rfl))) (mvT hZ (hw _ (List.mem_of_getElem? (i := 31) rfl))) (notFace_of_selects (args := #[]) (mvT hZ (hw _ (List.mem_of_getElem? (i := 33) rfl)))) (mvT hZ (hw _ (List.mem_of_getElem? (i := 33) rfl))) (mvT hZ (hw _ (List.mem_of_getElem? (i := 32) rfl))) (by decide) (backOf (W := 0) (own_rm_graph l Z a0 hw [] b10 (own_bit (u8 - (11 : Int32)) 1) T9.heap n0 Zq9 Fgraph9 (own_narb _ _)) hZ (hw _ (List.mem_of_getElem? (i := 34) rfl)) (hw _ (List.mem_of_getElem? (i := 2) rfl)) (by decide) (by decide)) q11a q11c (g := (mkF m 89 #[.val (.int p1), .val (.int c1), .val (.int v2), .val (.int v3), .val (.int v4), .val (.ref b5), .val (.int u8), .val (.ref b10)] [(.ref b10)])) rfl (by rw [hml]; rfl) (Steps.refl _) (argsL := []) (rest := []) (lenOf own_pd4 rfl) rfl (by show 2 * 0 + _ ≤ _; exact Nat.le_of_eq rfl) (hb hby at_89) (fun _ _ => ⟨rfl, rfl, (by decide : 2 + 0 ≤ _), (by decide : 6 + 0 ≤ _)⟩)
  dsimp only [Pt.U, Pt.locs, Pt.cells, Pt.slots] at X11 l11 y11 z11 st11 hQ11
  subst l11 y11 z11
  obtain ⟨rfl, N11q, e11q⟩ := hQ11
  have N11 := Fr.app N9 N11q
  have E11_b10 : Exa Z T11.heap b10 "com/example/rankweave/rankweave/index/IndexFormat" := by rw [e11q]; exact Eq9
  have Fs11_b10_graph : Fld Z T11.heap b10 "com/example/rankweave/rankweave/index/IndexFormat" "graph" "Z" (.int (own_bit (u8 - (11 : Int32)) 1)) := by rw [e11q]; exact Fgraph9
  have Fs11_b10_fields : Fld Z T11.heap b10 "com/example/rankweave/rankweave/index/IndexFormat" "fields" "Z" (.int (own_bit (u8 - (11 : Int32)) 2)) := by rw [e11q]; exact Ffields9
  have Fs11_b10_tokens : Fld Z T11.heap b10 "com/example/rankweave/rankweave/index/IndexFormat" "tokens" "Z" (.int (own_bit (u8 - (11 : Int32)) 4)) := by rw [e11q]; exact Ftokens9
  have Z11 : n0 ≤ T11.heap.size := by rw [e11q]; exact Zq9
  obtain ⟨cq12, kq12, q12a, q12b, q12c⟩ := isOf hZ rfl E11_b10
  obtain ⟨_, _, ⟨T12, L12, k12, n12⟩, -, X12, ⟨Lc12, hQ12, l12, y12, z12⟩, st12⟩ := X11.virtualBack hx (y := (⟨"com/example/rankweave/rankweave/index/IndexFormat", "fields", "()Z"⟩ : MethodName)) (z := (⟨"com/example/rankweave/rankweave/index/IndexFormat", "fields", "()Z"⟩ : MethodName)) hown (mvT hZ (hw _ (List.mem_of_getElem? (i := 35) rfl))) (mvT hZ (hw _ (List.mem_of_getElem? (i := 36) rfl))) (notFace_of_selects (args := #[]) (mvT hZ (hw _ (List.mem_of_getElem? (i := 38) rfl)))) (mvT hZ (hw _ (List.mem_of_getElem? (i := 38) rfl))) (mvT hZ (hw _ (List.mem_of_getElem? (i := 37) rfl))) (by decide) (backOf (W := 0) (own_rm_fields l Z a0 hw [] b10 (own_bit (u8 - (11 : Int32)) 2) T11.heap n0 Z11 Fs11_b10_fields (own_narb _ _)) hZ (hw _ (List.mem_of_getElem? (i := 39) rfl)) (hw _ (List.mem_of_getElem? (i := 2) rfl)) (by decide) (by decide)) q12a q12c (g := (mkF m 98 #[.val (.int p1), .val (.int c1), .val (.int v2), .val (.int v3), .val (.int v4), .val (.ref b5), .val (.int u8), .val (.ref b10)] [(.ref b10)])) rfl (by rw [hml]; rfl) (Steps.refl _) (argsL := []) (rest := []) (lenOf own_pd4 rfl) rfl (by show 2 * 0 + _ ≤ _; exact Nat.le_of_eq rfl) (hb hby at_98) (fun _ _ => ⟨rfl, rfl, (by decide : 2 + 0 ≤ _), (by decide : 6 + 0 ≤ _)⟩)
  dsimp only [Pt.U, Pt.locs, Pt.cells, Pt.slots] at X12 l12 y12 z12 st12 hQ12
  subst l12 y12 z12
  obtain ⟨rfl, N12q, e12q⟩ := hQ12
  have N12 := Fr.app N11 N12q
  have E12_b10 : Exa Z T12.heap b10 "com/example/rankweave/rankweave/index/IndexFormat" := by rw [e12q]; exact E11_b10
  have Fs12_b10_graph : Fld Z T12.heap b10 "com/example/rankweave/rankweave/index/IndexFormat" "graph" "Z" (.int (own_bit (u8 - (11 : Int32)) 1)) := by rw [e12q]; exact Fs11_b10_graph
  have Fs12_b10_fields : Fld Z T12.heap b10 "com/example/rankweave/rankweave/index/IndexFormat" "fields" "Z" (.int (own_bit (u8 - (11 : Int32)) 2)) := by rw [e12q]; exact Fs11_b10_fields
  have Fs12_b10_tokens : Fld Z T12.heap b10 "com/example/rankweave/rankweave/index/IndexFormat" "tokens" "Z" (.int (own_bit (u8 - (11 : Int32)) 4)) := by rw [e12q]; exact Fs11_b10_tokens
  have Z12 : n0 ≤ T12.heap.size := by rw [e12q]; exact Z11
  obtain ⟨cq13, kq13, q13a, q13b, q13c⟩ := isOf hZ rfl E12_b10
  obtain ⟨_, _, ⟨T13, L13, k13, n13⟩, -, X13, ⟨Lc13, hQ13, l13, y13, z13⟩, st13⟩ := X12.virtualBack hx (y := (⟨"com/example/rankweave/rankweave/index/IndexFormat", "tokens", "()Z"⟩ : MethodName)) (z := (⟨"com/example/rankweave/rankweave/index/IndexFormat", "tokens", "()Z"⟩ : MethodName)) hown (mvT hZ (hw _ (List.mem_of_getElem? (i := 40) rfl))) (mvT hZ (hw _ (List.mem_of_getElem? (i := 41) rfl))) (notFace_of_selects (args := #[]) (mvT hZ (hw _ (List.mem_of_getElem? (i := 43) rfl)))) (mvT hZ (hw _ (List.mem_of_getElem? (i := 43) rfl))) (mvT hZ (hw _ (List.mem_of_getElem? (i := 42) rfl))) (by decide) (backOf (W := 0) (own_rm_tokens l Z a0 hw [] b10 (own_bit (u8 - (11 : Int32)) 4) T12.heap n0 Z12 Fs12_b10_tokens (own_narb _ _)) hZ (hw _ (List.mem_of_getElem? (i := 44) rfl)) (hw _ (List.mem_of_getElem? (i := 2) rfl)) (by decide) (by decide)) q13a q13c (g := (mkF m 107 #[.val (.int p1), .val (.int c1), .val (.int v2), .val (.int v3), .val (.int v4), .val (.ref b5), .val (.int u8), .val (.ref b10)] [(.ref b10)])) rfl (by rw [hml]; rfl) (Steps.refl _) (argsL := []) (rest := []) (lenOf own_pd4 rfl) rfl (by show 2 * 0 + _ ≤ _; exact Nat.le_of_eq rfl) (hb hby at_107) (fun _ _ => ⟨rfl, rfl, (by decide : 2 + 0 ≤ _), (by decide : 6 + 0 ≤ _)⟩)
  dsimp only [Pt.U, Pt.locs, Pt.cells, Pt.slots] at X13 l13 y13 z13 st13 hQ13
  subst l13 y13 z13
  obtain ⟨rfl, N13q, e13q⟩ := hQ13
  have N13 := Fr.app N12 N13q
  have E13_b10 : Exa Z T13.heap b10 "com/example/rankweave/rankweave/index/IndexFormat" := by rw [e13q]; exact E12_b10
  have Fs13_b10_graph : Fld Z T13.heap b10 "com/example/rankweave/rankweave/index/IndexFormat" "graph" "Z" (.int (own_bit (u8 - (11 : Int32)) 1)) := by rw [e13q]; exact Fs12_b10_graph
  have Fs13_b10_fields : Fld Z T13.heap b10 "com/example/rankweave/rankweave/index/IndexFormat" "fields" "Z" (.int (own_bit (u8 - (11 : Int32)) 2)) := by rw [e13q]; exact Fs12_b10_fields
  have Fs13_b10_tokens : Fld Z T13.heap b10 "com/example/rankweave/rankweave/index/IndexFormat" "tokens" "Z" (.int (own_bit (u8 - (11 : Int32)) 4)) := by rw [e13q]; exact Fs12_b10_tokens
  have Z13 : n0 ≤ T13.heap.size := by rw [e13q]; exact Z12
  obtain ⟨fs, hr, hrun, hended, hW, hsame⟩ := X13.leave (v := some (.int (1 : Int32))) (fun h => by rw [Bd.returns] at h; cases h)
  refine ⟨_, _, pre0 _ ?_, hrun, hended, _, _, rfl, ?_, ⟨_, rfl⟩, hW, hsame.mono (by decide) (by decide)⟩
  · show Steps p.tables e below (s₁.setTop (mkF m 0 #[.val (.int p1), .unset, .unset, .unset, .unset, .unset, .unset, .unset] [])) _
    refine XS.iloadN X0.here hx rfl (hb hby at_0) rfl ?_
    show Steps p.tables e below (s₁.setTop (mkF m 1 #[.val (.int p1), .unset, .unset, .unset, .unset, .unset, .unset, .unset] [(.int p1)])) _
    refine XS.bipush X0.here hx rfl (hb hby at_1) ?_
    show Steps p.tables e below (s₁.setTop (mkF m 3 #[.val (.int p1), .unset, .unset, .unset, .unset, .unset, .unset, .unset] [(.int (7 : Int32)), (.int p1)])) _
    refine XS.iand X0.here hx rfl (hb hby at_3) rfl ?_
    show Steps p.tables e below (s₁.setTop (mkF m 4 #[.val (.int p1), .unset, .unset, .unset, .unset, .unset, .unset, .unset] [(.int (p1 &&& (7 : Int32)))])) _
    rw [← hc1]
    show Steps p.tables e below (s₁.setTop (mkF m 4 #[.val (.int p1), .unset, .unset, .unset, .unset, .unset, .unset, .unset] [(.int c1)])) _
    refine XS.istoreN X0.here hx rfl (hb hby at_4) rfl (l' := #[.val (.int p1), .val (.int c1), .unset, .unset, .unset, .unset, .unset, .unset]) rfl ?_
    show Steps p.tables e below (s₁.setTop (mkF m 5 #[.val (.int p1), .val (.int c1), .unset, .unset, .unset, .unset, .unset, .unset] [])) _
    refine XS.iloadN X0.here hx rfl (hb hby at_5) rfl ?_
    show Steps p.tables e below (s₁.setTop (mkF m 6 #[.val (.int p1), .val (.int c1), .unset, .unset, .unset, .unset, .unset, .unset] [(.int c1)])) _
    refine XS.iconst X0.here hx rfl (hb hby at_6) ?_
    show Steps p.tables e below (s₁.setTop (mkF m 7 #[.val (.int p1), .val (.int c1), .unset, .unset, .unset, .unset, .unset, .unset] [(.int (1 : Int32)), (.int c1)])) _
    refine XS.iand X0.here hx rfl (hb hby at_7) rfl ?_
    suffices J8 : Steps p.tables e below (s₁.setTop (mkF m 16 #[.val (.int p1), .val (.int c1), .unset, .unset, .unset, .unset, .unset, .unset] [(.int v2)])) (T13.setFrames fs) by
      by_cases hc8 : (c1 &&& (1 : Int32)) = (0 : Int32)
      · rw [hv2, if_pos hc8] at J8
        show Steps p.tables e below (s₁.setTop (mkF m 8 #[.val (.int p1), .val (.int c1), .unset, .unset, .unset, .unset, .unset, .unset] [(.int (c1 &&& (1 : Int32)))])) _
        refine XS.ifYes X0.here hx rfl (pc0 := 8) (pc' := 15) rfl (hb hby at_8) rfl ((if0 _ _).trans (teq hc8).1) (by decide) (by decide) ?_
        show Steps p.tables e below (s₁.setTop (mkF m 15 #[.val (.int p1), .val (.int c1), .unset, .unset, .unset, .unset, .unset, .unset] [])) _
        refine XS.iconst X0.here hx rfl (hb hby at_15) ?_
        exact J8
      · rw [hv2, if_neg hc8] at J8
        show Steps p.tables e below (s₁.setTop (mkF m 8 #[.val (.int p1), .val (.int c1), .unset, .unset, .unset, .unset, .unset, .unset] [(.int (c1 &&& (1 : Int32)))])) _
        refine XS.ifNo X0.here hx rfl (hb hby at_8) rfl ((if0 _ _).trans (feq hc8).1) ?_
        show Steps p.tables e below (s₁.setTop (mkF m 11 #[.val (.int p1), .val (.int c1), .unset, .unset, .unset, .unset, .unset, .unset] [])) _
        refine XS.iconst X0.here hx rfl (hb hby at_11) ?_
        show Steps p.tables e below (s₁.setTop (mkF m 12 #[.val (.int p1), .val (.int c1), .unset, .unset, .unset, .unset, .unset, .unset] [(.int (1 : Int32))])) _
        refine XS.goto X0.here hx rfl (pc0 := 12) (pc' := 16) rfl (hb hby at_12) (by decide) (by decide) ?_
        exact J8
    show Steps p.tables e below (s₁.setTop (mkF m 16 #[.val (.int p1), .val (.int c1), .unset, .unset, .unset, .unset, .unset, .unset] [(.int v2)])) _
    refine XS.istoreN X0.here hx rfl (hb hby at_16) rfl (l' := #[.val (.int p1), .val (.int c1), .val (.int v2), .unset, .unset, .unset, .unset, .unset]) rfl ?_
    show Steps p.tables e below (s₁.setTop (mkF m 17 #[.val (.int p1), .val (.int c1), .val (.int v2), .unset, .unset, .unset, .unset, .unset] [])) _
    refine XS.iloadN X0.here hx rfl (hb hby at_17) rfl ?_
    show Steps p.tables e below (s₁.setTop (mkF m 18 #[.val (.int p1), .val (.int c1), .val (.int v2), .unset, .unset, .unset, .unset, .unset] [(.int c1)])) _
    refine XS.iconst X0.here hx rfl (hb hby at_18) ?_
    show Steps p.tables e below (s₁.setTop (mkF m 19 #[.val (.int p1), .val (.int c1), .val (.int v2), .unset, .unset, .unset, .unset, .unset] [(.int (2 : Int32)), (.int c1)])) _
    refine XS.iand X0.here hx rfl (hb hby at_19) rfl ?_
    suffices J20 : Steps p.tables e below (s₁.setTop (mkF m 28 #[.val (.int p1), .val (.int c1), .val (.int v2), .unset, .unset, .unset, .unset, .unset] [(.int v3)])) (T13.setFrames fs) by
      by_cases hc20 : (c1 &&& (2 : Int32)) = (0 : Int32)
      · rw [hv3, if_pos hc20] at J20
        show Steps p.tables e below (s₁.setTop (mkF m 20 #[.val (.int p1), .val (.int c1), .val (.int v2), .unset, .unset, .unset, .unset, .unset] [(.int (c1 &&& (2 : Int32)))])) _
        refine XS.ifYes X0.here hx rfl (pc0 := 20) (pc' := 27) rfl (hb hby at_20) rfl ((if0 _ _).trans (teq hc20).1) (by decide) (by decide) ?_
        show Steps p.tables e below (s₁.setTop (mkF m 27 #[.val (.int p1), .val (.int c1), .val (.int v2), .unset, .unset, .unset, .unset, .unset] [])) _
        refine XS.iconst X0.here hx rfl (hb hby at_27) ?_
        exact J20
      · rw [hv3, if_neg hc20] at J20
        show Steps p.tables e below (s₁.setTop (mkF m 20 #[.val (.int p1), .val (.int c1), .val (.int v2), .unset, .unset, .unset, .unset, .unset] [(.int (c1 &&& (2 : Int32)))])) _
        refine XS.ifNo X0.here hx rfl (hb hby at_20) rfl ((if0 _ _).trans (feq hc20).1) ?_
        show Steps p.tables e below (s₁.setTop (mkF m 23 #[.val (.int p1), .val (.int c1), .val (.int v2), .unset, .unset, .unset, .unset, .unset] [])) _
        refine XS.iconst X0.here hx rfl (hb hby at_23) ?_
        show Steps p.tables e below (s₁.setTop (mkF m 24 #[.val (.int p1), .val (.int c1), .val (.int v2), .unset, .unset, .unset, .unset, .unset] [(.int (1 : Int32))])) _
        refine XS.goto X0.here hx rfl (pc0 := 24) (pc' := 28) rfl (hb hby at_24) (by decide) (by decide) ?_
        exact J20
    show Steps p.tables e below (s₁.setTop (mkF m 28 #[.val (.int p1), .val (.int c1), .val (.int v2), .unset, .unset, .unset, .unset, .unset] [(.int v3)])) _
    refine XS.istoreN X0.here hx rfl (hb hby at_28) rfl (l' := #[.val (.int p1), .val (.int c1), .val (.int v2), .val (.int v3), .unset, .unset, .unset, .unset]) rfl ?_
    show Steps p.tables e below (s₁.setTop (mkF m 29 #[.val (.int p1), .val (.int c1), .val (.int v2), .val (.int v3), .unset, .unset, .unset, .unset] [])) _
    refine XS.iloadN X0.here hx rfl (hb hby at_29) rfl ?_
    show Steps p.tables e below (s₁.setTop (mkF m 30 #[.val (.int p1), .val (.int c1), .val (.int v2), .val (.int v3), .unset, .unset, .unset, .unset] [(.int c1)])) _
    refine XS.iconst X0.here hx rfl (hb hby at_30) ?_
    show Steps p.tables e below (s₁.setTop (mkF m 31 #[.val (.int p1), .val (.int c1), .val (.int v2), .val (.int v3), .unset, .unset, .unset, .unset] [(.int (4 : Int32)), (.int c1)])) _
    refine XS.iand X0.here hx rfl (hb hby at_31) rfl ?_
    suffices J32 : Steps p.tables e below (s₁.setTop (mkF m 40 #[.val (.int p1), .val (.int c1), .val (.int v2), .val (.int v3), .unset, .unset, .unset, .unset] [(.int v4)])) (T13.setFrames fs) by
      by_cases hc32 : (c1 &&& (4 : Int32)) = (0 : Int32)
      · rw [hv4, if_pos hc32] at J32
        show Steps p.tables e below (s₁.setTop (mkF m 32 #[.val (.int p1), .val (.int c1), .val (.int v2), .val (.int v3), .unset, .unset, .unset, .unset] [(.int (c1 &&& (4 : Int32)))])) _
        refine XS.ifYes X0.here hx rfl (pc0 := 32) (pc' := 39) rfl (hb hby at_32) rfl ((if0 _ _).trans (teq hc32).1) (by decide) (by decide) ?_
        show Steps p.tables e below (s₁.setTop (mkF m 39 #[.val (.int p1), .val (.int c1), .val (.int v2), .val (.int v3), .unset, .unset, .unset, .unset] [])) _
        refine XS.iconst X0.here hx rfl (hb hby at_39) ?_
        exact J32
      · rw [hv4, if_neg hc32] at J32
        show Steps p.tables e below (s₁.setTop (mkF m 32 #[.val (.int p1), .val (.int c1), .val (.int v2), .val (.int v3), .unset, .unset, .unset, .unset] [(.int (c1 &&& (4 : Int32)))])) _
        refine XS.ifNo X0.here hx rfl (hb hby at_32) rfl ((if0 _ _).trans (feq hc32).1) ?_
        show Steps p.tables e below (s₁.setTop (mkF m 35 #[.val (.int p1), .val (.int c1), .val (.int v2), .val (.int v3), .unset, .unset, .unset, .unset] [])) _
        refine XS.iconst X0.here hx rfl (hb hby at_35) ?_
        show Steps p.tables e below (s₁.setTop (mkF m 36 #[.val (.int p1), .val (.int c1), .val (.int v2), .val (.int v3), .unset, .unset, .unset, .unset] [(.int (1 : Int32))])) _
        refine XS.goto X0.here hx rfl (pc0 := 36) (pc' := 40) rfl (hb hby at_36) (by decide) (by decide) ?_
        exact J32
    show Steps p.tables e below (s₁.setTop (mkF m 40 #[.val (.int p1), .val (.int c1), .val (.int v2), .val (.int v3), .unset, .unset, .unset, .unset] [(.int v4)])) _
    refine XS.istore X0.here hx rfl (hb hby at_40) rfl (l' := #[.val (.int p1), .val (.int c1), .val (.int v2), .val (.int v3), .val (.int v4), .unset, .unset, .unset]) rfl ?_
    show Steps p.tables e below (s₁.setTop (mkF m 42 #[.val (.int p1), .val (.int c1), .val (.int v2), .val (.int v3), .val (.int v4), .unset, .unset, .unset] [])) _
    refine st5 _ ?_
    show Steps p.tables e below (T5.setTop (mkF m 45 #[.val (.int p1), .val (.int c1), .val (.int v2), .val (.int v3), .val (.int v4), .unset, .unset, .unset] [(.ref b5)])) _
    refine XS.dup X5.here hx rfl (hb hby at_45) rfl rfl ?_
    show Steps p.tables e below (T5.setTop (mkF m 46 #[.val (.int p1), .val (.int c1), .val (.int v2), .val (.int v3), .val (.int v4), .unset, .unset, .unset] [(.ref b5), (.ref b5)])) _
    refine XS.iloadN X5.here hx rfl (hb hby at_46) rfl ?_
    show Steps p.tables e below (T5.setTop (mkF m 47 #[.val (.int p1), .val (.int c1), .val (.int v2), .val (.int v3), .val (.int v4), .unset, .unset, .unset] [(.int v2), (.ref b5), (.ref b5)])) _
    refine XS.iloadN X5.here hx rfl (hb hby at_47) rfl ?_
    show Steps p.tables e below (T5.setTop (mkF m 48 #[.val (.int p1), .val (.int c1), .val (.int v2), .val (.int v3), .val (.int v4), .unset, .unset, .unset] [(.int v3), (.int v2), (.ref b5), (.ref b5)])) _
    refine XS.iload X5.here hx rfl (hb hby at_48) rfl ?_
    show Steps p.tables e below (T5.setTop (mkF m 50 #[.val (.int p1), .val (.int c1), .val (.int v2), .val (.int v3), .val (.int v4), .unset, .unset, .unset] [(.int v4), (.int v3), (.int v2), (.ref b5), (.ref b5)])) _
    refine st6.trans ?_
    show Steps p.tables e below (T6.setTop (mkF m 53 #[.val (.int p1), .val (.int c1), .val (.int v2), .val (.int v3), .val (.int v4), .unset, .unset, .unset] [(.ref b5)])) _
    refine XS.astore X6.here hx rfl (hb hby at_53) rfl rfl (l' := #[.val (.int p1), .val (.int c1), .val (.int v2), .val (.int v3), .val (.int v4), .val (.ref b5), .unset, .unset]) rfl ?_
    show Steps p.tables e below (T6.setTop (mkF m 55 #[.val (.int p1), .val (.int c1), .val (.int v2), .val (.int v3), .val (.int v4), .val (.ref b5), .unset, .unset] [])) _
    refine XS.aload X6.here hx rfl (hb hby at_55) rfl rfl ?_
    show Steps p.tables e below (T6.setTop (mkF m 57 #[.val (.int p1), .val (.int c1), .val (.int v2), .val (.int v3), .val (.int v4), .val (.ref b5), .unset, .unset] [(.ref b5)])) _
    refine st7.trans ?_
    show Steps p.tables e below (T7.setTop (mkF m 60 #[.val (.int p1), .val (.int c1), .val (.int v2), .val (.int v3), .val (.int v4), .val (.ref b5), .unset, .unset] [(.int u8)])) _
    refine XS.istore X7.here hx rfl (hb hby at_60) rfl (l' := #[.val (.int p1), .val (.int c1), .val (.int v2), .val (.int v3), .val (.int v4), .val (.ref b5), .val (.int u8), .unset]) rfl ?_
    show Steps p.tables e below (T7.setTop (mkF m 62 #[.val (.int p1), .val (.int c1), .val (.int v2), .val (.int v3), .val (.int v4), .val (.ref b5), .val (.int u8), .unset] [])) _
    refine XS.iload X7.here hx rfl (hb hby at_62) rfl ?_
    show Steps p.tables e below (T7.setTop (mkF m 64 #[.val (.int p1), .val (.int c1), .val (.int v2), .val (.int v3), .val (.int v4), .val (.ref b5), .val (.int u8), .unset] [(.int u8)])) _
    refine XS.bipush X7.here hx rfl (hb hby at_64) ?_
    show Steps p.tables e below (T7.setTop (mkF m 66 #[.val (.int p1), .val (.int c1), .val (.int v2), .val (.int v3), .val (.int v4), .val (.ref b5), .val (.int u8), .unset] [(.int (11 : Int32)), (.int u8)])) _
    refine XS.iloadN X7.here hx rfl (hb hby at_66) rfl ?_
    show Steps p.tables e below (T7.setTop (mkF m 67 #[.val (.int p1), .val (.int c1), .val (.int v2), .val (.int v3), .val (.int v4), .val (.ref b5), .val (.int u8), .unset] [(.int c1), (.int (11 : Int32)), (.int u8)])) _
    refine XS.iadd X7.here hx rfl (hb hby at_67) rfl ?_
    show Steps p.tables e below (T7.setTop (mkF m 68 #[.val (.int p1), .val (.int c1), .val (.int v2), .val (.int v3), .val (.int v4), .val (.ref b5), .val (.int u8), .unset] [(.int ((11 : Int32) + c1)), (.int u8)])) _
    refine XS.icmpYes X7.here hx rfl (pc0 := 68) (pc' := 73) rfl (hb hby at_68) rfl (teq hA.1).1 (by decide) (by decide) ?_
    show Steps p.tables e below (T7.setTop (mkF m 73 #[.val (.int p1), .val (.int c1), .val (.int v2), .val (.int v3), .val (.int v4), .val (.ref b5), .val (.int u8), .unset] [])) _
    refine XS.iload X7.here hx rfl (hb hby at_73) rfl ?_
    show Steps p.tables e below (T7.setTop (mkF m 75 #[.val (.int p1), .val (.int c1), .val (.int v2), .val (.int v3), .val (.int v4), .val (.ref b5), .val (.int u8), .unset] [(.int u8)])) _
    refine st9 _ ?_
    show Steps p.tables e below (T9.setTop (mkF m 78 #[.val (.int p1), .val (.int c1), .val (.int v2), .val (.int v3), .val (.int v4), .val (.ref b5), .val (.int u8), .unset] [(.ref b10)])) _
    refine XS.astore X9.here hx rfl (hb hby at_78) rfl rfl (l' := #[.val (.int p1), .val (.int c1), .val (.int v2), .val (.int v3), .val (.int v4), .val (.ref b5), .val (.int u8), .val (.ref b10)]) rfl ?_
    show Steps p.tables e below (T9.setTop (mkF m 80 #[.val (.int p1), .val (.int c1), .val (.int v2), .val (.int v3), .val (.int v4), .val (.ref b5), .val (.int u8), .val (.ref b10)] [])) _
    refine XS.aload X9.here hx rfl (hb hby at_80) rfl rfl ?_
    show Steps p.tables e below (T9.setTop (mkF m 82 #[.val (.int p1), .val (.int c1), .val (.int v2), .val (.int v3), .val (.int v4), .val (.ref b5), .val (.int u8), .val (.ref b10)] [(.ref b10)])) _
    refine XS.ifnonnullYes X9.here hx rfl (pc0 := 82) (pc' := 87) rfl (hb hby at_82) rfl (by decide) (by decide) ?_
    show Steps p.tables e below (T9.setTop (mkF m 87 #[.val (.int p1), .val (.int c1), .val (.int v2), .val (.int v3), .val (.int v4), .val (.ref b5), .val (.int u8), .val (.ref b10)] [])) _
    refine XS.aload X9.here hx rfl (hb hby at_87) rfl rfl ?_
    show Steps p.tables e below (T9.setTop (mkF m 89 #[.val (.int p1), .val (.int c1), .val (.int v2), .val (.int v3), .val (.int v4), .val (.ref b5), .val (.int u8), .val (.ref b10)] [(.ref b10)])) _
    refine st11.trans ?_
    show Steps p.tables e below (T11.setTop (mkF m 92 #[.val (.int p1), .val (.int c1), .val (.int v2), .val (.int v3), .val (.int v4), .val (.ref b5), .val (.int u8), .val (.ref b10)] [(.int (own_bit (u8 - (11 : Int32)) 1))])) _
    refine XS.iloadN X11.here hx rfl (hb hby at_92) rfl ?_
    show Steps p.tables e below (T11.setTop (mkF m 93 #[.val (.int p1), .val (.int c1), .val (.int v2), .val (.int v3), .val (.int v4), .val (.ref b5), .val (.int u8), .val (.ref b10)] [(.int v2), (.int (own_bit (u8 - (11 : Int32)) 1))])) _
    refine XS.icmpNo X11.here hx rfl (hb hby at_93) rfl (teq hA.2.2.2.1).2 ?_
    show Steps p.tables e below (T11.setTop (mkF m 96 #[.val (.int p1), .val (.int c1), .val (.int v2), .val (.int v3), .val (.int v4), .val (.ref b5), .val (.int u8), .val (.ref b10)] [])) _
    refine XS.aload X11.here hx rfl (hb hby at_96) rfl rfl ?_
    show Steps p.tables e below (T11.setTop (mkF m 98 #[.val (.int p1), .val (.int c1), .val (.int v2), .val (.int v3), .val (.int v4), .val (.ref b5), .val (.int u8), .val (.ref b10)] [(.ref b10)])) _
    refine st12.trans ?_
    show Steps p.tables e below (T12.setTop (mkF m 101 #[.val (.int p1), .val (.int c1), .val (.int v2), .val (.int v3), .val (.int v4), .val (.ref b5), .val (.int u8), .val (.ref b10)] [(.int (own_bit (u8 - (11 : Int32)) 2))])) _
    refine XS.iloadN X12.here hx rfl (hb hby at_101) rfl ?_
    show Steps p.tables e below (T12.setTop (mkF m 102 #[.val (.int p1), .val (.int c1), .val (.int v2), .val (.int v3), .val (.int v4), .val (.ref b5), .val (.int u8), .val (.ref b10)] [(.int v3), (.int (own_bit (u8 - (11 : Int32)) 2))])) _
    refine XS.icmpNo X12.here hx rfl (hb hby at_102) rfl (teq hA.2.2.2.2.1).2 ?_
    show Steps p.tables e below (T12.setTop (mkF m 105 #[.val (.int p1), .val (.int c1), .val (.int v2), .val (.int v3), .val (.int v4), .val (.ref b5), .val (.int u8), .val (.ref b10)] [])) _
    refine XS.aload X12.here hx rfl (hb hby at_105) rfl rfl ?_
    show Steps p.tables e below (T12.setTop (mkF m 107 #[.val (.int p1), .val (.int c1), .val (.int v2), .val (.int v3), .val (.int v4), .val (.ref b5), .val (.int u8), .val (.ref b10)] [(.ref b10)])) _
    refine st13.trans ?_
    show Steps p.tables e below (T13.setTop (mkF m 110 #[.val (.int p1), .val (.int c1), .val (.int v2), .val (.int v3), .val (.int v4), .val (.ref b5), .val (.int u8), .val (.ref b10)] [(.int (own_bit (u8 - (11 : Int32)) 4))])) _
    refine XS.iload X13.here hx rfl (hb hby at_110) rfl ?_
    show Steps p.tables e below (T13.setTop (mkF m 112 #[.val (.int p1), .val (.int c1), .val (.int v2), .val (.int v3), .val (.int v4), .val (.ref b5), .val (.int u8), .val (.ref b10)] [(.int v4), (.int (own_bit (u8 - (11 : Int32)) 4))])) _
    refine XS.icmpNo X13.here hx rfl (hb hby at_112) rfl (teq hA.2.2.2.2.2).2 ?_
    show Steps p.tables e below (T13.setTop (mkF m 115 #[.val (.int p1), .val (.int c1), .val (.int v2), .val (.int v3), .val (.int v4), .val (.ref b5), .val (.int u8), .val (.ref b10)] [])) _
    refine XS.iconst X13.here hx rfl (hb hby at_115) ?_
    show Steps p.tables e below (T13.setTop (mkF m 116 #[.val (.int p1), .val (.int c1), .val (.int v2), .val (.int v3), .val (.int v4), .val (.ref b5), .val (.int u8), .val (.ref b10)] [(.int (1 : Int32))])) _
    refine XS.goto X13.here hx rfl (pc0 := 116) (pc' := 120) rfl (hb hby at_116) (by decide) (by decide) ?_
    show Steps p.tables e below (T13.setTop (mkF m 120 #[.val (.int p1), .val (.int c1), .val (.int v2), .val (.int v3), .val (.int v4), .val (.ref b5), .val (.int u8), .val (.ref b10)] [(.int (1 : Int32))])) _
    exact retN X13 hx (t := .boolean) Bd.returns (by simp) (hb hby at_120) hr
  · show own_Q_law Z p1  h0 n0 _ T13.heap _
    exact ⟨rfl, N13⟩
set_option maxRecDepth 65536 in
set_option maxHeartbeats 40000000 in
theorem own_comes {Post : Tables → Env → Array Value → State → Outcome → State → Prop} (hpost : ∀ tb e args s v u, (limb_1_1.after args s (.returned v) u = true ∧ limb_1_2.after args s (.returned v) u = true) → FrameEnd s (.returned v) u (Jvm.fieldLocs frame_1_writes args s ++ Jvm.arrayLocs frame_1_arrays args s ++ Jvm.staticLocs frame_1_statics s) 16 128 → Post tb e args s (.returned v) u) :
    ArmFor flags0 classFile x code maxLocals ret World_1 tables_1 room_1 Calls_1 rest_1 Pre_1 Post := by
  intro l hfl _ _ p e ha hc hk s m args below hf hA hF happ hP
  obtain ⟨hcalls, hrest, hpre⟩ := hP
  obtain ⟨-, -, -, hnamed, -, -, -, hat⟩ := (Spec.applies_iff hf).mp happ
  obtain ⟨hg, hn⟩ := and_e (Cond.before_iff.mp (show (Jvm.Cond.and given_1 narrow_1).before args s = true from hpre))
  obtain ⟨gc, gr⟩ := and_e hg
  obtain ⟨w0, rfl⟩ : ∃ w0 : Value, args = #[w0] := by
    have hs : args.size = 1 := by simpa [Cond.value, given_1] using gc
    obtain ⟨L⟩ := args
    match L, hs with
    | [w0], _ => exact ⟨w0, rfl⟩
  have hw := fun d (hd : d ∈ tables_1) => atoms_spec (ws := Jvm.Cond.code x code maxLocals ret :: tables_1) hat d (List.mem_cons_of_mem _ hd)
  obtain ⟨i0, ei0⟩ := is_v gr
  obtain rfl : w0 = (.int i0) := Option.some.inj ei0
  obtain ⟨n, o, h1, h2, h3, _, L, rfl, ⟨rfl, N⟩, hq⟩ := own_rm_law l s _ hw tables_1 i0 s.heap s.heap.size (Nat.le_refl _) p e ha hc hk s m _ below hf ((Spec.applies_iff_loose hf).mp happ).1 ⟨rfl, State.Warmed39.refl s, rfl⟩ trivial
  refine ⟨n, _, h1, h2, h3, hpost _ _ _ _ _ _ ⟨Cond.after_iff.mpr rfl, Cond.after_iff.mpr (eq_i res_at (Term.int_eval (1)) rfl)⟩ ⟨hq.1, hq.2.1, (hq.2.2.sift fun y hy => Or.inr (N y hy)).mono (by decide) (by decide)⟩⟩
theorem main_1_1 : Claimed_1_1 := own_comes fun _ _ _ _ _ _ h hF => ⟨h.1, hF⟩
theorem main_1_2 : Claimed_1_2 := own_comes fun _ _ _ _ _ _ h hF => ⟨h.2, hF⟩
end Jvm.Pilot.@@N@@
namespace Jvm.Pilot.@@N@@
open Jvm Jvm.ClassFile Sem Op Lib Jvm.Free Jvm.Stand Jvm.Pilot.@@N@@.Jvm.D
/-! MADE BY PROGRAM (witnessworld.py) out of the Statement's table words and the real class files: 10 classes; the members and pool entries that the words name. The judged class is class 1, her method 1. -/
namespace start1
open Jvm.ClassFile
def u (s : String) : CpInfo := .utf8 (stringToUtf16 s)
/-- a pool by its gaps: so many unusable entries, then the entry; so many at the end -/
def gap : Nat → List CpInfo → List CpInfo
  | 0, r => r
  | n + 1, r => .unusable :: gap n r
def poolList (es : List (Nat × CpInfo)) (last : Nat) : List CpInfo := es.foldr (fun e r => gap e.1 (e.2 :: r)) (gap last [])
def pool (es : List (Nat × CpInfo)) (last : Nat) : Array CpInfo := ⟨poolList es last⟩
def fileOf (pool : Array CpInfo) (this : Nat) (attrs : Array Attribute := #[]) (ms : Array MethodInfo := #[]) (fl : Nat := 33) (sup : Nat := 0) (ifs : Array Nat := #[]) (fds : Array FieldInfo := #[]) : ClassFile where
  minorVersion := 0
  majorVersion := 65
  constantPool := pool
  accessFlags := fl
  thisClass := this
  superClass := sup
  interfaces := ifs
  fields := fds
  methods := ms
  attributes := attrs
def plain (name : String) (sup : Option ClassId) : Class where
  name := name
  kind := .ordinary
  loader := none
  accessFlags := 33
  super := sup
  interfaces := #[]
  cf := none
  fields := #[]
  methods := #[]
  instanceTypes := #[]
  staticTypes := #[]
  resolved := #[]
  callSites := []
  init := .initialized
  statics := none
  mirror := none

def pool0 : Array CpInfo := pool [(5, u "<init>"), (0, u "()V"), (1, .class_ 10), (1, u "java/lang/Object")] 113

def k0c0 : Code := { maxStack := 0, maxLocals := 1, code := object_method_1_code, exceptionTable := #[], attributes := #[] }
def k0m0 : Method := { name := "<init>", desc := "()V", sig := { parameters := [], returnType := none }, accessFlags := 1, code := some k0c0 }
/-- java/lang/Object -/
def k0 : Class := { plain "java/lang/Object" none with
  accessFlags := 33
  interfaces := #[]
  cf := some (fileOf pool0 8 #[] #[{ accessFlags := 1, nameIndex := 5, descriptorIndex := 6, attributes := #[] }] 33 0 #[] #[])
  fields := #[]
  methods := #[k0m0]
  instanceTypes := #[]
  staticTypes := #[]
  resolved := Array.replicate 124 none
  statics := none }

def pool1 : Array CpInfo := pool [(2, .class_ 4), (1, u "java/lang/Object"), (0, u "<init>"), (0, u "()V"), (0, .class_ 8), (0, u "com/example/rankweave/rankweave/index/IndexFormat"), (0, .methodref 7 10), (0, .nameAndType 5 11), (0, u "(ZZZ)V"), (0, .methodref 7 13), (0, .nameAndType 14 15), (0, u "version"), (0, u "()I"), (0, .methodref 7 17), (0, .nameAndType 18 19), (0, u "read"), (0, u "(I)Lcom/example/rankweave/rankweave/index/IndexFormat;"), (0, .methodref 7 21), (0, .nameAndType 22 23), (0, u "graph"), (0, u "()Z"), (0, .methodref 7 25), (0, .nameAndType 26 23), (0, u "fields"), (0, .methodref 7 28), (0, .nameAndType 29 23), (0, u "tokens"), (0, .class_ 31), (0, u "com/example/rankweave/rankweave/index/IndexFormatVersionPinLaw"), (2, u "law"), (0, u "(I)Z")] 3

def k1m0 : Method := { name := "<init>", desc := "()V", sig := { parameters := [], returnType := none }, accessFlags := 1, code := none }
def k1c1 : Code := { maxStack := 5, maxLocals := 8, code := code, exceptionTable := #[], attributes := #[] }
def k1m1 : Method := { name := "law", desc := "(I)Z", sig := { parameters := [.int], returnType := some .boolean }, accessFlags := 9, code := some k1c1 }
/-- com/example/rankweave/rankweave/index/IndexFormatVersionPinLaw -/
def k1 : Class := { plain "com/example/rankweave/rankweave/index/IndexFormatVersionPinLaw" (some 0) with
  accessFlags := 49
  interfaces := #[]
  cf := some (fileOf pool1 30 #[] #[{ accessFlags := 1, nameIndex := 5, descriptorIndex := 6, attributes := #[] }, { accessFlags := 9, nameIndex := 34, descriptorIndex := 35, attributes := #[] }] 49 2 #[] #[])
  fields := #[]
  methods := #[k1m0, k1m1]
  instanceTypes := #[]
  staticTypes := #[]
  resolved := Array.replicate 39 none
  statics := none }

def pool2 : Array CpInfo := pool [(1, .methodref 2 3), (0, .class_ 4), (0, .nameAndType 5 6), (0, u "java/lang/Object"), (0, u "<init>"), (0, u "()V"), (0, .class_ 8), (0, u "java/lang/Record")] 13

def k2c0 : Code := { maxStack := 1, maxLocals := 1, code := jdk_30_method_1_code, exceptionTable := #[], attributes := #[] }
def k2m0 : Method := { name := "<init>", desc := "()V", sig := { parameters := [], returnType := none }, accessFlags := 4, code := some k2c0 }
/-- java/lang/Record -/
def k2 : Class := { plain "java/lang/Record" (some 0) with
  accessFlags := 1057
  interfaces := #[]
  cf := some (fileOf pool2 7 #[] #[{ accessFlags := 4, nameIndex := 5, descriptorIndex := 6, attributes := #[] }] 1057 2 #[] #[])
  fields := #[]
  methods := #[k2m0]
  instanceTypes := #[]
  staticTypes := #[]
  resolved := Array.replicate 22 none
  statics := none }

def pool3 : Array CpInfo := pool [(1, .class_ 2), (0, u "com/example/rankweave/rankweave/index/IndexFormat"), (0, .methodref 4 5), (0, .class_ 6), (0, .nameAndType 7 8), (0, u "java/lang/Record"), (0, u "<init>"), (0, u "()V"), (0, .fieldref 1 10), (0, .nameAndType 11 12), (0, u "graph"), (0, u "Z"), (0, .fieldref 1 14), (0, .nameAndType 15 12), (0, u "fields"), (0, .fieldref 1 17), (0, .nameAndType 18 12), (0, u "tokens"), (0, .methodref 1 20), (0, .nameAndType 7 21), (0, u "(ZZZ)V"), (18, u "()I"), (9, u "()Z"), (21, u "PLAIN"), (0, u "I"), (2, u "GRAPH"), (1, u "FIELDS"), (1, u "TOKENS"), (1, u "LAST"), (6, u "version"), (1, u "read"), (0, u "(I)Lcom/example/rankweave/rankweave/index/IndexFormat;")] 32

def k3c0 : Code := { maxStack := 2, maxLocals := 4, code := prog_46_method_1_code, exceptionTable := #[], attributes := #[] }
def k3m0 : Method := { name := "<init>", desc := "(ZZZ)V", sig := { parameters := [.boolean, .boolean, .boolean], returnType := none }, accessFlags := 0, code := some k3c0 }
def k3c1 : Code := { maxStack := 2, maxLocals := 1, code := prog_46_method_3_code, exceptionTable := #[], attributes := #[] }
def k3m1 : Method := { name := "version", desc := "()I", sig := { parameters := [], returnType := some .int }, accessFlags := 0, code := some k3c1 }
def k3c2 : Code := { maxStack := 6, maxLocals := 2, code := prog_46_method_4_code, exceptionTable := #[], attributes := #[] }
def k3m2 : Method := { name := "read", desc := "(I)Lcom/example/rankweave/rankweave/index/IndexFormat;", sig := { parameters := [.int], returnType := some (.object "com/example/rankweave/rankweave/index/IndexFormat") }, accessFlags := 8, code := some k3c2 }
def k3c3 : Code := { maxStack := 1, maxLocals := 1, code := prog_46_method_9_code, exceptionTable := #[], attributes := #[] }
def k3m3 : Method := { name := "graph", desc := "()Z", sig := { parameters := [], returnType := some .boolean }, accessFlags := 1, code := some k3c3 }
def k3c4 : Code := { maxStack := 1, maxLocals := 1, code := prog_46_method_10_code, exceptionTable := #[], attributes := #[] }
def k3m4 : Method := { name := "fields", desc := "()Z", sig := { parameters := [], returnType := some .boolean }, accessFlags := 1, code := some k3c4 }
def k3c5 : Code := { maxStack := 1, maxLocals := 1, code := prog_46_method_11_code, exceptionTable := #[], attributes := #[] }
def k3m5 : Method := { name := "tokens", desc := "()Z", sig := { parameters := [], returnType := some .boolean }, accessFlags := 1, code := some k3c5 }
/-- com/example/rankweave/rankweave/index/IndexFormat -/
def k3 : Class := { plain "com/example/rankweave/rankweave/index/IndexFormat" (some 2) with
  accessFlags := 48
  interfaces := #[]
  cf := some (fileOf pool3 1 #[] #[{ accessFlags := 0, nameIndex := 7, descriptorIndex := 21, attributes := #[] }, { accessFlags := 0, nameIndex := 89, descriptorIndex := 40, attributes := #[] }, { accessFlags := 8, nameIndex := 91, descriptorIndex := 92, attributes := #[] }, { accessFlags := 1, nameIndex := 11, descriptorIndex := 50, attributes := #[] }, { accessFlags := 1, nameIndex := 15, descriptorIndex := 50, attributes := #[] }, { accessFlags := 1, nameIndex := 18, descriptorIndex := 50, attributes := #[] }] 48 4 #[] #[{ accessFlags := 18, nameIndex := 11, descriptorIndex := 12, attributes := #[] }, { accessFlags := 18, nameIndex := 15, descriptorIndex := 12, attributes := #[] }, { accessFlags := 18, nameIndex := 18, descriptorIndex := 12, attributes := #[] }, { accessFlags := 26, nameIndex := 72, descriptorIndex := 73, attributes := #[] }, { accessFlags := 26, nameIndex := 76, descriptorIndex := 73, attributes := #[] }, { accessFlags := 26, nameIndex := 78, descriptorIndex := 73, attributes := #[] }, { accessFlags := 26, nameIndex := 80, descriptorIndex := 73, attributes := #[] }, { accessFlags := 26, nameIndex := 82, descriptorIndex := 73, attributes := #[] }])
  fields := #[{ name := "graph", type := .boolean, accessFlags := 18, slot := 0, constantValue := 0 }, { name := "fields", type := .boolean, accessFlags := 18, slot := 1, constantValue := 0 }, { name := "tokens", type := .boolean, accessFlags := 18, slot := 2, constantValue := 0 }, { name := "PLAIN", type := .int, accessFlags := 26, slot := 0, constantValue := 0 }, { name := "GRAPH", type := .int, accessFlags := 26, slot := 1, constantValue := 0 }, { name := "FIELDS", type := .int, accessFlags := 26, slot := 2, constantValue := 0 }, { name := "TOKENS", type := .int, accessFlags := 26, slot := 3, constantValue := 0 }, { name := "LAST", type := .int, accessFlags := 26, slot := 4, constantValue := 0 }]
  methods := #[k3m0, k3m1, k3m2, k3m3, k3m4, k3m5]
  instanceTypes := #[.boolean, .boolean, .boolean]
  staticTypes := #[.int, .int, .int, .int, .int]
  resolved := Array.replicate 125 none
  statics := none }

def pool4 : Array CpInfo := pool [(1, u "java/lang/Cloneable"), (0, .class_ 1), (0, u "java/lang/Object"), (0, .class_ 3)] 3

/-- java/lang/Cloneable -/
def k4 : Class := { plain "java/lang/Cloneable" (some 0) with
  accessFlags := 1537
  interfaces := #[]
  cf := some (fileOf pool4 2 #[] #[] 1537 4 #[] #[])
  fields := #[]
  methods := #[]
  instanceTypes := #[]
  staticTypes := #[]
  resolved := Array.replicate 8 none
  statics := none }

def pool5 : Array CpInfo := pool [(1, u "java/io/Serializable"), (0, .class_ 1), (0, u "java/lang/Object"), (0, .class_ 3)] 3

/-- java/io/Serializable -/
def k5 : Class := { plain "java/io/Serializable" (some 0) with
  accessFlags := 1537
  interfaces := #[]
  cf := some (fileOf pool5 2 #[] #[] 1537 4 #[] #[])
  fields := #[]
  methods := #[]
  instanceTypes := #[]
  staticTypes := #[]
  resolved := Array.replicate 8 none
  statics := none }

/-- the primitive byte -/
def k6 : Class := { plain "byte" none with kind := .primitive 'B', accessFlags := 0x411 }
/-- [B -/
def k7 : Class := { plain "[B" (some 0) with kind := .array 6 .byte, interfaces := #[4, 5], accessFlags := 1041 }

/-- the primitive int -/
def k8 : Class := { plain "int" none with kind := .primitive 'I', accessFlags := 0x411 }
/-- [I -/
def k9 : Class := { plain "[I" (some 0) with kind := .array 8 .int, interfaces := #[4, 5], accessFlags := 1041 }

def heap : Heap := #[]
def classes : Array Class := #[k0, k1, k2, k3, k4, k5, k6, k7, k8, k9]
def interned : List (Array UInt16 × Addr) := []
def slotsUsed : Nat := 0
def theMethod : MethodId := ⟨1, 1⟩
def args0 : Array Value := #[.int 5]
def aboutOver (below : List Frame) : State where
  vm := { classes := classes, interned := interned.toArray }
  heap := heap
  slotsUsed := slotsUsed
  threads := #[{ frames := .invoking theMethod args0 :: below }]
def below0 : List Frame := [.native { method := ⟨0, 0⟩, args := #[] }]
def about1 : State := aboutOver below0
def p0 : Program := .bare "" "" ""
def e0 : Env := launch0.env 0 0 0
theorem w_frames : about1.frames = Frame.invoking theMethod args0 :: below0 := rfl
set_option maxRecDepth 65536 in
theorem w_args : argsFit about1.vm theMethod args0 = true := by decide +kernel
set_option maxRecDepth 65536 in
theorem w_heap : heapFits about1 = true := by decide +kernel
set_option maxRecDepth 65536 in
theorem w_runnable : about1.curStatus? = some .runnable := by decide +kernel
set_option maxRecDepth 65536 in
theorem w_alone : about1.alone = true := by decide +kernel
set_option maxRecDepth 65536 in
theorem w_named : about1.methodNamed? x = some theMethod := by decide +kernel
set_option maxRecDepth 65536 in
theorem w_hears : about1.hears theMethod below0 = true := by decide +kernel
set_option maxRecDepth 65536 in
theorem w_ripe : about1.ripe theMethod args0 below0 = true := by decide +kernel
theorem w_running : about1.status = .running := rfl
set_option maxRecDepth 65536 in
theorem w_room : about1.hasRoom e0.platform room_1 = true :=
  launch0.hasRoom_least _ room_1 (by decide +kernel) (by decide +kernel) (by decide +kernel) (by decide +kernel) (by decide +kernel) (by decide +kernel)
theorem allAtoms_all (ts : List Jvm.Cond) (a : Array Jvm.Value) (st : Jvm.State) : (allAtoms ts).before a st = ts.all (fun c => c.before a st) := by
  induction ts with
  | nil => rfl
  | cons c t ih =>
    show (Jvm.Cond.and c (allAtoms t)).before a st = _
    rw [Jvm.Cond.before_and, ih, List.all_cons]
def words1 : List Jvm.Cond := Jvm.Cond.code x code maxLocals ret :: tables_1
/-- a 'code' word, met by the world's own term for the bytes: nothing is compared byte by byte -/
theorem code_word {y : MethodName} {bytes : ByteArray} {mx : Nat} {rt : Option FieldType} {a : Array Value} {s : State} {m : MethodId} {meth : Method} {c : Code} (h1 : s.methodNamed? y = some m) (h2 : s.vm.method? m = some meth) (h3 : meth.code = some c) (h4 : c.code = bytes)
    (h5 : (c.maxLocals == mx && c.exceptionTable.isEmpty && decide (c.maxStack ≤ mostOperands) && decide (meth.sig.returnType = rt) && !meth.locks && decide (parseMethodDescriptor y.desc = some meth.sig)) = true) : (Jvm.Cond.code y bytes mx rt).before a s = true := by
  simp only [Bool.and_eq_true, beq_iff_eq, Bool.not_eq_true', decide_eq_true_eq] at h5
  obtain ⟨⟨⟨⟨⟨g1, g2⟩, g3⟩, g4⟩, g5⟩, g6⟩ := h5
  simp [Cond.before, Cond.holds, Cond.value, h1, h2, h3, h4, g1, g2, g3, g4, g5, g6]
def isCode : Jvm.Cond → Bool
  | .code _ _ _ _ => true
  | _ => false
theorem all_split {L : List Jvm.Cond} {P : Jvm.Cond → Bool} (h1 : L.all (fun c => isCode c || P c) = true) (h2 : ∀ c ∈ L.filter isCode, P c = true) : L.all P = true := by
  refine List.all_eq_true.mpr fun c hc => ?_
  have h := List.all_eq_true.mp h1 c hc
  rcases Bool.eq_false_or_eq_true (isCode c) with hi | hi
  · exact h2 c (List.mem_filter.mpr ⟨hc, hi⟩)
  · simpa [hi] using h
set_option maxRecDepth 65536 in
theorem w_c0 : (Jvm.Cond.code x code maxLocals ret).before args0 about1 = true := code_word (m := ⟨1, 1⟩) (meth := k1m1) (c := k1c1) (by decide +kernel) rfl rfl rfl (by decide +kernel)
set_option maxRecDepth 65536 in
theorem w_c1 : (Jvm.Cond.code ({ cls := "com/example/rankweave/rankweave/index/IndexFormat", name := "<init>", desc := "(ZZZ)V" } : Jvm.MethodName) prog_46_method_1_code (4 : Nat) (Option.none : Option Jvm.ClassFile.FieldType)).before args0 about1 = true := code_word (m := ⟨3, 0⟩) (meth := k3m0) (c := k3c0) (by decide +kernel) rfl rfl rfl (by decide +kernel)
set_option maxRecDepth 65536 in
theorem w_c2 : (Jvm.Cond.code ({ cls := "java/lang/Record", name := "<init>", desc := "()V" } : Jvm.MethodName) jdk_30_method_1_code (1 : Nat) (Option.none : Option Jvm.ClassFile.FieldType)).before args0 about1 = true := code_word (m := ⟨2, 0⟩) (meth := k2m0) (c := k2c0) (by decide +kernel) rfl rfl rfl (by decide +kernel)
set_option maxRecDepth 65536 in
theorem w_c3 : (Jvm.Cond.code ({ cls := "java/lang/Object", name := "<init>", desc := "()V" } : Jvm.MethodName) object_method_1_code (1 : Nat) (Option.none : Option Jvm.ClassFile.FieldType)).before args0 about1 = true := code_word (m := ⟨0, 0⟩) (meth := k0m0) (c := k0c0) (by decide +kernel) rfl rfl rfl (by decide +kernel)
set_option maxRecDepth 65536 in
theorem w_c4 : (Jvm.Cond.code ({ cls := "com/example/rankweave/rankweave/index/IndexFormat", name := "version", desc := "()I" } : Jvm.MethodName) prog_46_method_3_code (1 : Nat) (Option.some Jvm.ClassFile.FieldType.int)).before args0 about1 = true := code_word (m := ⟨3, 1⟩) (meth := k3m1) (c := k3c1) (by decide +kernel) rfl rfl rfl (by decide +kernel)
set_option maxRecDepth 65536 in
theorem w_c5 : (Jvm.Cond.code ({ cls := "com/example/rankweave/rankweave/index/IndexFormat", name := "read", desc := "(I)Lcom/example/rankweave/rankweave/index/IndexFormat;" } : Jvm.MethodName) prog_46_method_4_code (2 : Nat) (Option.some (Jvm.ClassFile.FieldType.object "com/example/rankweave/rankweave/index/IndexFormat"))).before args0 about1 = true := code_word (m := ⟨3, 2⟩) (meth := k3m2) (c := k3c2) (by decide +kernel) rfl rfl rfl (by decide +kernel)
set_option maxRecDepth 65536 in
theorem w_c6 : (Jvm.Cond.code ({ cls := "com/example/rankweave/rankweave/index/IndexFormat", name := "graph", desc := "()Z" } : Jvm.MethodName) prog_46_method_9_code (1 : Nat) (Option.some Jvm.ClassFile.FieldType.boolean)).before args0 about1 = true := code_word (m := ⟨3, 3⟩) (meth := k3m3) (c := k3c3) (by decide +kernel) rfl rfl rfl (by decide +kernel)
set_option maxRecDepth 65536 in
theorem w_c7 : (Jvm.Cond.code ({ cls := "com/example/rankweave/rankweave/index/IndexFormat", name := "fields", desc := "()Z" } : Jvm.MethodName) prog_46_method_10_code (1 : Nat) (Option.some Jvm.ClassFile.FieldType.boolean)).before args0 about1 = true := code_word (m := ⟨3, 4⟩) (meth := k3m4) (c := k3c4) (by decide +kernel) rfl rfl rfl (by decide +kernel)
set_option maxRecDepth 65536 in
theorem w_c8 : (Jvm.Cond.code ({ cls := "com/example/rankweave/rankweave/index/IndexFormat", name := "tokens", desc := "()Z" } : Jvm.MethodName) prog_46_method_11_code (1 : Nat) (Option.some Jvm.ClassFile.FieldType.boolean)).before args0 about1 = true := code_word (m := ⟨3, 5⟩) (meth := k3m5) (c := k3c5) (by decide +kernel) rfl rfl rfl (by decide +kernel)
def codes1 : List Jvm.Cond := [Jvm.Cond.code x code maxLocals ret, Jvm.Cond.code ({ cls := "com/example/rankweave/rankweave/index/IndexFormat", name := "<init>", desc := "(ZZZ)V" } : Jvm.MethodName) prog_46_method_1_code (4 : Nat) (Option.none : Option Jvm.ClassFile.FieldType), Jvm.Cond.code ({ cls := "java/lang/Record", name := "<init>", desc := "()V" } : Jvm.MethodName) jdk_30_method_1_code (1 : Nat) (Option.none : Option Jvm.ClassFile.FieldType), Jvm.Cond.code ({ cls := "java/lang/Object", name := "<init>", desc := "()V" } : Jvm.MethodName) object_method_1_code (1 : Nat) (Option.none : Option Jvm.ClassFile.FieldType), Jvm.Cond.code ({ cls := "com/example/rankweave/rankweave/index/IndexFormat", name := "version", desc := "()I" } : Jvm.MethodName) prog_46_method_3_code (1 : Nat) (Option.some Jvm.ClassFile.FieldType.int), Jvm.Cond.code ({ cls := "com/example/rankweave/rankweave/index/IndexFormat", name := "read", desc := "(I)Lcom/example/rankweave/rankweave/index/IndexFormat;" } : Jvm.MethodName) prog_46_method_4_code (2 : Nat) (Option.some (Jvm.ClassFile.FieldType.object "com/example/rankweave/rankweave/index/IndexFormat")), Jvm.Cond.code ({ cls := "com/example/rankweave/rankweave/index/IndexFormat", name := "graph", desc := "()Z" } : Jvm.MethodName) prog_46_method_9_code (1 : Nat) (Option.some Jvm.ClassFile.FieldType.boolean), Jvm.Cond.code ({ cls := "com/example/rankweave/rankweave/index/IndexFormat", name := "fields", desc := "()Z" } : Jvm.MethodName) prog_46_method_10_code (1 : Nat) (Option.some Jvm.ClassFile.FieldType.boolean), Jvm.Cond.code ({ cls := "com/example/rankweave/rankweave/index/IndexFormat", name := "tokens", desc := "()Z" } : Jvm.MethodName) prog_46_method_11_code (1 : Nat) (Option.some Jvm.ClassFile.FieldType.boolean)]
set_option maxRecDepth 65536 in
theorem codes_eq : words1.filter isCode = codes1 := rfl
theorem w_codes : ∀ c ∈ words1.filter isCode, c.before args0 about1 = true := by
  rw [codes_eq]
  intro c hc
  simp only [codes1, List.mem_cons, List.not_mem_nil, or_false] at hc
  rcases hc with rfl | rfl | rfl | rfl | rfl | rfl | rfl | rfl | rfl
  · exact w_c0
  · exact w_c1
  · exact w_c2
  · exact w_c3
  · exact w_c4
  · exact w_c5
  · exact w_c6
  · exact w_c7
  · exact w_c8
set_option maxRecDepth 65536 in
theorem w_t1 : (words1.take 24).all (fun c => isCode c || c.before args0 about1) = true := by decide +kernel
set_option maxRecDepth 65536 in
theorem w_t2 : (words1.drop 24).all (fun c => isCode c || c.before args0 about1) = true := by decide +kernel
theorem w_tables : (allAtoms (Jvm.Cond.code x code maxLocals ret :: tables_1)).before args0 about1 = true := by
  rw [allAtoms_all]
  show words1.all (fun c => c.before args0 about1) = true
  refine all_split ?_ w_codes
  rw [← List.take_append_drop 24 words1, List.all_append, w_t1, w_t2]
  rfl
set_option maxRecDepth 65536 in
theorem w_case : (Jvm.Cond.and given_1 narrow_1).before args0 about1 = true := by decide +kernel
theorem w_applies : (headSpec (Jvm.Cond.code x code maxLocals ret :: tables_1) room_1).applies x e0.platform about1 = true :=
  (Spec.applies_iff w_frames).mpr ⟨w_running, w_runnable, w_alone, w_named, w_hears, w_ripe, w_room, w_tables⟩
theorem atStart : AtStart classFile x code maxLocals ret World_1 tables_1 room_1 Calls_1 rest_1 Pre_1 launch0 p0 e0 about1 theMethod args0 below0 :=
  ⟨lists_1, trivial, launch0.admits_env _ _ _, launch0.least_env, fairChoices_fair.cas, fairChoices_fair.clock, w_frames, w_args, w_heap, w_applies, trivial, trivial, w_case⟩
end start1
theorem witness_1 : WitnessClaimed_1 := ⟨start1.p0, start1.e0, start1.about1, start1.theMethod, start1.args0, start1.below0, start1.atStart⟩
end Jvm.Pilot.@@N@@
