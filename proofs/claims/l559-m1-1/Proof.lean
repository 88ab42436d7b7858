import JvmDerived
import JvmDerived.Pilot.@@N@@Statement
import JvmDerived.Pilot.@@N@@Code
set_option linter.unusedVariables false
set_option linter.unusedSimpArgs false

namespace Jvm.Pilot.@@N@@
open Jvm Jvm.ClassFile Sem Op Lib Jvm.Free Jvm.Stand Jvm.LawKit Jvm.RoadKit Bundle Jvm.Pilot.@@N@@.Jvm.D
/-- from the frame g' at S' the run comes to the frame g at S -/
abbrev Go (p : Program) (e : Env) (below : List Frame) (S : State) (g : JFrame) (S' : State) (g' : JFrame) : Prop := ∀ t, Steps p.tables e below (S.setTop g) t → Steps p.tables e below (S'.setTop g') t

theorem own_fld {args : Array Value} {s : State} {t : Term} {x : Addr} {C n d : String} {k : Int32} (ht : t.eval args s none [] s = some (.ref x)) (h : (Jvm.Cond.eq (.field t C n d) (.int k)).value args s none s [] = some true) : Fld s s.heap x C n d (.int k) := by
  obtain ⟨y, z, h1, h2, h3, -⟩ := cmp_v (Or.inl h)
  have h2' : z = .int k := by simpa [Term.eval] using h2.symm
  subst h2'
  obtain ⟨u, rfl⟩ : ∃ u, y = .int u := by cases y <;> simp [Kin, Value.isRef] at h3 ⊢
  have h4 : u = k := by simpa [Jvm.Cond.value, h1, h2] using h
  subst h4
  exact Fld.start ((fld_at ht).symm.trans h1)

theorem dR_0 : decode jdk_30_method_1_code 0 = .ok (.aload_n 0, 1) := by decide +kernel
theorem dR_1 : decode jdk_30_method_1_code 1 = .ok (.invokespecial 1, 3) := by decide +kernel
theorem dR_4 : decode jdk_30_method_1_code 4 = .ok (.return_, 1) := by decide +kernel
theorem pnR : plainName "java/lang/Record" = true := by first | (simp [plainName, overriddenIn]; done) | decide +kernel
theorem efR (m : MethodId) (a1 : Addr) : entryFrame m #[(.ref a1)] 1 = mkF m 0 #[.val (.ref a1)] [] := by first | (simp [entryFrame, mkF, argsToLocals, Value.category]; done) | rfl
def QR (Z : State) (a1 : Addr) (h0 : Heap) (n0 : Nat) (v : Option Value) (h : Heap) (L : List Loc) : Prop := v = none ∧ Fr n0 L ∧ h = h0
set_option maxRecDepth 65536 in
set_option maxHeartbeats 40000000 in
theorem rmR (l : Launch) (Z : State) (a0 : Array Value) (hw : ∀ d ∈ tables_1, d.before a0 Z = true) (ws : List Jvm.Cond) (a1 : Addr) (h0 : Heap) (n0 : Nat) (Z0 : n0 ≤ h0.size) :
    MetFree l (⟨"java/lang/Record", "<init>", "()V"⟩ : MethodName) (head1 (Jvm.Cond.code (⟨"java/lang/Record", "<init>", "()V"⟩ : MethodName) jdk_30_method_1_code 1 none :: ws) ({ frames := 1, cells := 0, slots := 0, locals := 12 } : Room)) (fun a U => a = #[(.ref a1)] ∧ Z.Warmed39 U.vm ∧ U.heap = h0) (fun _ _ _ _ _ => True) (fun _ U o U' => ∃ v L, o = .returned v ∧ QR Z a1 h0 n0 v U'.heap L ∧ FrameEnd U o U' L ({ frames := 1, cells := 0, slots := 0, locals := 12 } : Room).cells ({ frames := 1, cells := 0, slots := 0, locals := 12 } : Room).slots) := by
  refine MetFree.of_bodySF (plainFor_of_name pnR) hisR ?_
  intro p e s m args below meth c s₁ Bd hml0 hP hK
  obtain ⟨rfl, hZ, hh⟩ := hP
  have hx := Bd.exec
  have hby := Bd.bytes
  have hml : c.maxLocals = 1 := hml0
  have hown : s.vm.findClass "java/lang/Record" = some m.cls := findClass_of_methodNamed Bd.named
  have hnm := (name_of_methodNamed Bd.named Bd.method).1
  have X0 : Stand p l e ({ frames := 1, cells := 0, slots := 0, locals := 12 } : Room) s m #[(.ref a1)] below meth c s₁ [] 0 0 := Stand.of_body Bd
  have e0 : s₁.heap = h0 := by rw [← hh, Bd.state]; rfl
  have N0 := Fr.nil n0
  have pre0 : Go p e below s₁ (mkF m 0 #[.val (.ref a1)] []) s₁ (entryFrame m #[(.ref a1)] 1) := fun t k => castTop (efR m a1) k
  have pre1 : Go p e below s₁ (mkF m 1 #[.val (.ref a1)] [(.ref a1)]) s₁ (entryFrame m #[(.ref a1)] 1) := fun t k => pre0 t (by
      show Steps p.tables e below (s₁.setTop (mkF m 0 #[.val (.ref a1)] [])) t
      refine XS.aloadN X0.here hx rfl (hb hby dR_0) rfl rfl ?_
      exact k)
  obtain ⟨T2, X2, e2, st2⟩ := initO X0 hx hZ hown (hw _ (List.mem_of_getElem? (i := 11) rfl)) (hw _ (List.mem_of_getElem? (i := 12) rfl)) (hw _ (List.mem_of_getElem? (i := 13) rfl)) e0 (g := (mkF m 1 #[.val (.ref a1)] [(.ref a1)])) rfl (by rw [hml]; rfl) rfl (hb hby dR_1) (by decide) (W := 0) (by show 2 * 0 + _ ≤ _; exact Nat.le_of_eq rfl) (by decide)
  have pre3 : Go p e below T2 (mkF m 4 #[.val (.ref a1)] []) s₁ (entryFrame m #[(.ref a1)] 1) := fun t k => pre1 t (st2 t k)
  obtain ⟨fs, hr, hrun, hended, hW, hsame⟩ := X2.leave (v := none) (fun _ => rfl)
  refine ⟨_, _, pre3 _ (X2.returnOut hx Bd.returns (hb hby dR_4) hr), hrun, hended, _, _, rfl, ?_, ⟨_, rfl⟩, hW, hsame.mono (by decide) (by decide)⟩
  show QR Z a1 h0 n0 _ T2.heap _
  rw [e2]
  exact ⟨rfl, N0, rfl⟩
theorem dC_0 : decode prog_40_method_1_code 0 = .ok (.aload_n 0, 1) := by decide +kernel
theorem dC_1 : decode prog_40_method_1_code 1 = .ok (.invokespecial 1, 3) := by decide +kernel
theorem dC_4 : decode prog_40_method_1_code 4 = .ok (.aload_n 0, 1) := by decide +kernel
theorem dC_5 : decode prog_40_method_1_code 5 = .ok (.iload_n 1, 1) := by decide +kernel
theorem dC_6 : decode prog_40_method_1_code 6 = .ok (.putfield 7, 3) := by decide +kernel
theorem dC_9 : decode prog_40_method_1_code 9 = .ok (.aload_n 0, 1) := by decide +kernel
theorem dC_10 : decode prog_40_method_1_code 10 = .ok (.iload_n 2, 1) := by decide +kernel
theorem dC_11 : decode prog_40_method_1_code 11 = .ok (.putfield 13, 3) := by decide +kernel
theorem dC_14 : decode prog_40_method_1_code 14 = .ok (.aload_n 0, 1) := by decide +kernel
theorem dC_15 : decode prog_40_method_1_code 15 = .ok (.iload_n 3, 1) := by decide +kernel
theorem dC_16 : decode prog_40_method_1_code 16 = .ok (.putfield 16, 3) := by decide +kernel
theorem dC_19 : decode prog_40_method_1_code 19 = .ok (.aload_n 0, 1) := by decide +kernel
theorem dC_20 : decode prog_40_method_1_code 20 = .ok (.iload 4, 2) := by decide +kernel
theorem dC_22 : decode prog_40_method_1_code 22 = .ok (.putfield 19, 3) := by decide +kernel
theorem dC_25 : decode prog_40_method_1_code 25 = .ok (.return_, 1) := by decide +kernel
theorem pnC : plainName "com/example/picketline/picketline/protocol/Surroundings" = true := by first | (simp [plainName, overriddenIn]; done) | decide +kernel
theorem pdC_0 : parseMethodDescriptor "()V" = some ⟨[], none⟩ := by decide +kernel
theorem efC (m : MethodId) (a1 : Addr) (p1 : Int32) (p2 : Int32) (p3 : Int32) (p4 : Int32) : entryFrame m #[(.ref a1), (.int p1), (.int p2), (.int p3), (.int p4)] 5 = mkF m 0 #[.val (.ref a1), .val (.int p1), .val (.int p2), .val (.int p3), .val (.int p4)] [] := by first | (simp [entryFrame, mkF, argsToLocals, Value.category]; done) | rfl
def QC (Z : State) (a1 : Addr) (p1 : Int32) (p2 : Int32) (p3 : Int32) (p4 : Int32) (h0 : Heap) (n0 : Nat) (v : Option Value) (h : Heap) (L : List Loc) : Prop := v = none ∧ Fr n0 L ∧ Keep h0 h [a1] ∧ Exa Z h a1 "com/example/picketline/picketline/protocol/Surroundings" ∧ Fld Z h a1 "com/example/picketline/picketline/protocol/Surroundings" "seesLeft" "Z" (.int p1) ∧ Fld Z h a1 "com/example/picketline/picketline/protocol/Surroundings" "seesRight" "Z" (.int p2) ∧ Fld Z h a1 "com/example/picketline/picketline/protocol/Surroundings" "gapLeft" "Z" (.int p3) ∧ Fld Z h a1 "com/example/picketline/picketline/protocol/Surroundings" "gapRight" "Z" (.int p4)
set_option maxRecDepth 65536 in
set_option maxHeartbeats 40000000 in
theorem rmC (l : Launch) (Z : State) (a0 : Array Value) (hw : ∀ d ∈ tables_1, d.before a0 Z = true) (ws : List Jvm.Cond) (a1 : Addr) (p1 : Int32) (p2 : Int32) (p3 : Int32) (p4 : Int32) (h0 : Heap) (n0 : Nat) (Z0 : n0 ≤ h0.size) (E1 : Exa Z h0 a1 "com/example/picketline/picketline/protocol/Surroundings") (g_a1 : n0 ≤ a1) (F1 : Fld Z h0 a1 "com/example/picketline/picketline/protocol/Surroundings" "seesLeft" "Z" (.int 0)) (F2 : Fld Z h0 a1 "com/example/picketline/picketline/protocol/Surroundings" "seesRight" "Z" (.int 0)) (F3 : Fld Z h0 a1 "com/example/picketline/picketline/protocol/Surroundings" "gapLeft" "Z" (.int 0)) (F4 : Fld Z h0 a1 "com/example/picketline/picketline/protocol/Surroundings" "gapRight" "Z" (.int 0)) (hn1 : narrow .boolean (.int p1) = .int p1) (hn2 : narrow .boolean (.int p2) = .int p2) (hn3 : narrow .boolean (.int p3) = .int p3) (hn4 : narrow .boolean (.int p4) = .int p4) (hf1 : fits .boolean (.int p1) = true) (hf2 : fits .boolean (.int p2) = true) (hf3 : fits .boolean (.int p3) = true) (hf4 : fits .boolean (.int p4) = true) :
    MetFree l (⟨"com/example/picketline/picketline/protocol/Surroundings", "<init>", "(ZZZZ)V"⟩ : MethodName) (head1 (Jvm.Cond.code (⟨"com/example/picketline/picketline/protocol/Surroundings", "<init>", "(ZZZZ)V"⟩ : MethodName) prog_40_method_1_code 5 none :: ws) ({ frames := 2, cells := 0, slots := 0, locals := 24 } : Room)) (fun a U => a = #[(.ref a1), (.int p1), (.int p2), (.int p3), (.int p4)] ∧ Z.Warmed39 U.vm ∧ U.heap = h0) (fun _ _ _ _ _ => True) (fun _ U o U' => ∃ v L, o = .returned v ∧ QC Z a1 p1 p2 p3 p4 h0 n0 v U'.heap L ∧ FrameEnd U o U' L ({ frames := 2, cells := 0, slots := 0, locals := 24 } : Room).cells ({ frames := 2, cells := 0, slots := 0, locals := 24 } : Room).slots) := by
  refine MetFree.of_bodySF (plainFor_of_name pnC) hisR ?_
  intro p e s m args below meth c s₁ Bd hml0 hP hK
  obtain ⟨rfl, hZ, hh⟩ := hP
  have hx := Bd.exec
  have hby := Bd.bytes
  have hml : c.maxLocals = 5 := hml0
  have hown : s.vm.findClass "com/example/picketline/picketline/protocol/Surroundings" = some m.cls := findClass_of_methodNamed Bd.named
  have hnm := (name_of_methodNamed Bd.named Bd.method).1
  have X0 : Stand p l e ({ frames := 2, cells := 0, slots := 0, locals := 24 } : Room) s m #[(.ref a1), (.int p1), (.int p2), (.int p3), (.int p4)] below meth c s₁ [] 0 0 := Stand.of_body Bd
  have e0 : s₁.heap = h0 := by rw [← hh, Bd.state]; rfl
  have N0 := Fr.nil n0
  have pre0 : Go p e below s₁ (mkF m 0 #[.val (.ref a1), .val (.int p1), .val (.int p2), .val (.int p3), .val (.int p4)] []) s₁ (entryFrame m #[(.ref a1), (.int p1), (.int p2), (.int p3), (.int p4)] 5) := fun t k => castTop (efC m a1 p1 p2 p3 p4) k
  have pre1 : Go p e below s₁ (mkF m 1 #[.val (.ref a1), .val (.int p1), .val (.int p2), .val (.int p3), .val (.int p4)] [(.ref a1)]) s₁ (entryFrame m #[(.ref a1), (.int p1), (.int p2), (.int p3), (.int p4)] 5) := fun t k => pre0 t (by
      show Steps p.tables e below (s₁.setTop (mkF m 0 #[.val (.ref a1), .val (.int p1), .val (.int p2), .val (.int p3), .val (.int p4)] [])) t
      refine XS.aloadN X0.here hx rfl (hb hby dC_0) rfl rfl ?_
      exact k)
  obtain ⟨_, _, ⟨T2, L2, k2, n2⟩, -, X2, ⟨Lc2, hQ2, l2, y2, z2⟩, st2⟩ := X0.specialBack hx (y := (⟨"java/lang/Record", "<init>", "()V"⟩ : MethodName)) rfl hown (mvT hZ (hw _ (List.mem_of_getElem? (i := 6) rfl))) (mvT hZ (hw _ (List.mem_of_getElem? (i := 7) rfl))) (mvT hZ (hw _ (List.mem_of_getElem? (i := 10) rfl))) (by decide) (backOf (W := 0) (rmR l Z a0 hw [] a1 h0 n0 Z0) hZ (hw _ (List.mem_of_getElem? (i := 10) rfl)) (hw _ (List.mem_of_getElem? (i := 9) rfl)) (by decide) (by decide)) (g := (mkF m 1 #[.val (.ref a1), .val (.int p1), .val (.int p2), .val (.int p3), .val (.int p4)] [(.ref a1)])) rfl (by rw [hml]; rfl) (Steps.refl _) (a := a1) (argsL := []) (rest := []) (lenOf pdC_0 rfl) rfl (by show 2 * 0 + _ ≤ _; exact Nat.le_of_eq rfl) (hb hby dC_1) (fun _ _ => ⟨rfl, e0, (by decide : 0 + 0 ≤ _), (by decide : 0 + 0 ≤ _)⟩)
  dsimp only [Pt.U, Pt.locs, Pt.cells, Pt.slots] at X2 l2 y2 z2 st2 hQ2
  subst l2 y2 z2
  obtain ⟨rfl, N2q, hq2⟩ := hQ2
  have N2 := Fr.app N0 N2q
  have pre3 : Go p e below T2 (mkF m 4 #[.val (.ref a1), .val (.int p1), .val (.int p2), .val (.int p3), .val (.int p4)] []) s₁ (entryFrame m #[(.ref a1), (.int p1), (.int p2), (.int p3), (.int p4)] 5) := fun t k => pre1 t (st2.trans k)
  have e2 : T2.heap = h0 := hq2
  have pre4 : Go p e below T2 (mkF m 6 #[.val (.ref a1), .val (.int p1), .val (.int p2), .val (.int p3), .val (.int p4)] [(.int p1), (.ref a1)]) s₁ (entryFrame m #[(.ref a1), (.int p1), (.int p2), (.int p3), (.int p4)] 5) := fun t k => pre3 t (by
      show Steps p.tables e below (T2.setTop (mkF m 4 #[.val (.ref a1), .val (.int p1), .val (.int p2), .val (.int p3), .val (.int p4)] [])) t
      refine XS.aloadN X2.here hx rfl (hb hby dC_4) rfl rfl ?_
      show Steps p.tables e below (T2.setTop (mkF m 5 #[.val (.ref a1), .val (.int p1), .val (.int p2), .val (.int p3), .val (.int p4)] [(.ref a1)])) t
      refine XS.iloadN X2.here hx rfl (hb hby dC_5) rfl ?_
      exact k)
  obtain ⟨T5, h5, X5, e5, W5, st5⟩ := putFN X2 hx hZ hown (hw _ (List.mem_of_getElem? (i := 14) rfl)) Via.refl e2 F1 E1 (Or.inr ⟨(hw _ (List.mem_of_getElem? (i := 15) rfl)), rfl, hnm⟩) (hw _ (List.mem_of_getElem? (i := 1) rfl)) (ty := .boolean) (v' := (.int p1)) (by decide) hn1 hf1 (g := (mkF m 6 #[.val (.ref a1), .val (.int p1), .val (.int p2), .val (.int p3), .val (.int p4)] [(.int p1), (.ref a1)])) rfl rfl (hb hby dC_6)
  have pre6 : Go p e below T5 (mkF m 9 #[.val (.ref a1), .val (.int p1), .val (.int p2), .val (.int p3), .val (.int p4)] []) s₁ (entryFrame m #[(.ref a1), (.int p1), (.int p2), (.int p3), (.int p4)] 5) := fun t k => pre4 t (st5 t k)
  have Z7 : n0 ≤ h5.size := Nat.le_trans Z0 (Keep.of_wr W5).1
  have K7 : Keep h0 h5 [a1] := (Keep.refl h0 [a1]).wr W5 (Or.inl (List.mem_of_getElem? (i := 0) rfl))
  have Fw5 := Fld.same W5 F1
  have N5 := Fr.snoc X5 N2 g_a1
  have pre8 : Go p e below T5 (mkF m 11 #[.val (.ref a1), .val (.int p1), .val (.int p2), .val (.int p3), .val (.int p4)] [(.int p2), (.ref a1)]) s₁ (entryFrame m #[(.ref a1), (.int p1), (.int p2), (.int p3), (.int p4)] 5) := fun t k => pre6 t (by
      show Steps p.tables e below (T5.setTop (mkF m 9 #[.val (.ref a1), .val (.int p1), .val (.int p2), .val (.int p3), .val (.int p4)] [])) t
      refine XS.aloadN X5.here hx rfl (hb hby dC_9) rfl rfl ?_
      show Steps p.tables e below (T5.setTop (mkF m 10 #[.val (.ref a1), .val (.int p1), .val (.int p2), .val (.int p3), .val (.int p4)] [(.ref a1)])) t
      refine XS.iloadN X5.here hx rfl (hb hby dC_10) rfl ?_
      exact k)
  obtain ⟨T9, h9, X9, e9, W9, st9⟩ := putFN X5 hx hZ hown (hw _ (List.mem_of_getElem? (i := 16) rfl)) Via.refl e5 (Fld.other W5 F2 (Or.inr (slot_ne (Or.inr (hw _ (List.mem_of_getElem? (i := 17) rfl))) (Or.inr (hw _ (List.mem_of_getElem? (i := 15) rfl))) (by decide) (t := .boolean) (t' := .boolean) (by decide) (by decide)))) (E1.wr W5) (Or.inr ⟨(hw _ (List.mem_of_getElem? (i := 17) rfl)), rfl, hnm⟩) (hw _ (List.mem_of_getElem? (i := 1) rfl)) (ty := .boolean) (v' := (.int p2)) (by decide) hn2 hf2 (g := (mkF m 11 #[.val (.ref a1), .val (.int p1), .val (.int p2), .val (.int p3), .val (.int p4)] [(.int p2), (.ref a1)])) rfl rfl (hb hby dC_11)
  have pre10 : Go p e below T9 (mkF m 14 #[.val (.ref a1), .val (.int p1), .val (.int p2), .val (.int p3), .val (.int p4)] []) s₁ (entryFrame m #[(.ref a1), (.int p1), (.int p2), (.int p3), (.int p4)] 5) := fun t k => pre8 t (st9 t k)
  have Z11 : n0 ≤ h9.size := Nat.le_trans Z7 (Keep.of_wr W9).1
  have K11 : Keep h0 h9 [a1] := K7.wr W9 (Or.inl (List.mem_of_getElem? (i := 0) rfl))
  have Fw9 := Fld.same W9 (Fld.other W5 F2 (Or.inr (slot_ne (Or.inr (hw _ (List.mem_of_getElem? (i := 17) rfl))) (Or.inr (hw _ (List.mem_of_getElem? (i := 15) rfl))) (by decide) (t := .boolean) (t' := .boolean) (by decide) (by decide))))
  have N9 := Fr.snoc X9 N5 g_a1
  have pre12 : Go p e below T9 (mkF m 16 #[.val (.ref a1), .val (.int p1), .val (.int p2), .val (.int p3), .val (.int p4)] [(.int p3), (.ref a1)]) s₁ (entryFrame m #[(.ref a1), (.int p1), (.int p2), (.int p3), (.int p4)] 5) := fun t k => pre10 t (by
      show Steps p.tables e below (T9.setTop (mkF m 14 #[.val (.ref a1), .val (.int p1), .val (.int p2), .val (.int p3), .val (.int p4)] [])) t
      refine XS.aloadN X9.here hx rfl (hb hby dC_14) rfl rfl ?_
      show Steps p.tables e below (T9.setTop (mkF m 15 #[.val (.ref a1), .val (.int p1), .val (.int p2), .val (.int p3), .val (.int p4)] [(.ref a1)])) t
      refine XS.iloadN X9.here hx rfl (hb hby dC_15) rfl ?_
      exact k)
  obtain ⟨T13, h13, X13, e13, W13, st13⟩ := putFN X9 hx hZ hown (hw _ (List.mem_of_getElem? (i := 18) rfl)) Via.refl e9 (Fld.other W9 (Fld.other W5 F3 (Or.inr (slot_ne (Or.inr (hw _ (List.mem_of_getElem? (i := 19) rfl))) (Or.inr (hw _ (List.mem_of_getElem? (i := 15) rfl))) (by decide) (t := .boolean) (t' := .boolean) (by decide) (by decide)))) (Or.inr (slot_ne (Or.inr (hw _ (List.mem_of_getElem? (i := 19) rfl))) (Or.inr (hw _ (List.mem_of_getElem? (i := 17) rfl))) (by decide) (t := .boolean) (t' := .boolean) (by decide) (by decide)))) ((E1.wr W5).wr W9) (Or.inr ⟨(hw _ (List.mem_of_getElem? (i := 19) rfl)), rfl, hnm⟩) (hw _ (List.mem_of_getElem? (i := 1) rfl)) (ty := .boolean) (v' := (.int p3)) (by decide) hn3 hf3 (g := (mkF m 16 #[.val (.ref a1), .val (.int p1), .val (.int p2), .val (.int p3), .val (.int p4)] [(.int p3), (.ref a1)])) rfl rfl (hb hby dC_16)
  have pre14 : Go p e below T13 (mkF m 19 #[.val (.ref a1), .val (.int p1), .val (.int p2), .val (.int p3), .val (.int p4)] []) s₁ (entryFrame m #[(.ref a1), (.int p1), (.int p2), (.int p3), (.int p4)] 5) := fun t k => pre12 t (st13 t k)
  have Z15 : n0 ≤ h13.size := Nat.le_trans Z11 (Keep.of_wr W13).1
  have K15 : Keep h0 h13 [a1] := K11.wr W13 (Or.inl (List.mem_of_getElem? (i := 0) rfl))
  have Fw13 := Fld.same W13 (Fld.other W9 (Fld.other W5 F3 (Or.inr (slot_ne (Or.inr (hw _ (List.mem_of_getElem? (i := 19) rfl))) (Or.inr (hw _ (List.mem_of_getElem? (i := 15) rfl))) (by decide) (t := .boolean) (t' := .boolean) (by decide) (by decide)))) (Or.inr (slot_ne (Or.inr (hw _ (List.mem_of_getElem? (i := 19) rfl))) (Or.inr (hw _ (List.mem_of_getElem? (i := 17) rfl))) (by decide) (t := .boolean) (t' := .boolean) (by decide) (by decide))))
  have N13 := Fr.snoc X13 N9 g_a1
  have pre16 : Go p e below T13 (mkF m 22 #[.val (.ref a1), .val (.int p1), .val (.int p2), .val (.int p3), .val (.int p4)] [(.int p4), (.ref a1)]) s₁ (entryFrame m #[(.ref a1), (.int p1), (.int p2), (.int p3), (.int p4)] 5) := fun t k => pre14 t (by
      show Steps p.tables e below (T13.setTop (mkF m 19 #[.val (.ref a1), .val (.int p1), .val (.int p2), .val (.int p3), .val (.int p4)] [])) t
      refine XS.aloadN X13.here hx rfl (hb hby dC_19) rfl rfl ?_
      show Steps p.tables e below (T13.setTop (mkF m 20 #[.val (.ref a1), .val (.int p1), .val (.int p2), .val (.int p3), .val (.int p4)] [(.ref a1)])) t
      refine XS.iload X13.here hx rfl (hb hby dC_20) rfl ?_
      exact k)
  obtain ⟨T17, h17, X17, e17, W17, st17⟩ := putFN X13 hx hZ hown (hw _ (List.mem_of_getElem? (i := 20) rfl)) Via.refl e13 (Fld.other W13 (Fld.other W9 (Fld.other W5 F4 (Or.inr (slot_ne (Or.inr (hw _ (List.mem_of_getElem? (i := 21) rfl))) (Or.inr (hw _ (List.mem_of_getElem? (i := 15) rfl))) (by decide) (t := .boolean) (t' := .boolean) (by decide) (by decide)))) (Or.inr (slot_ne (Or.inr (hw _ (List.mem_of_getElem? (i := 21) rfl))) (Or.inr (hw _ (List.mem_of_getElem? (i := 17) rfl))) (by decide) (t := .boolean) (t' := .boolean) (by decide) (by decide)))) (Or.inr (slot_ne (Or.inr (hw _ (List.mem_of_getElem? (i := 21) rfl))) (Or.inr (hw _ (List.mem_of_getElem? (i := 19) rfl))) (by decide) (t := .boolean) (t' := .boolean) (by decide) (by decide)))) (((E1.wr W5).wr W9).wr W13) (Or.inr ⟨(hw _ (List.mem_of_getElem? (i := 21) rfl)), rfl, hnm⟩) (hw _ (List.mem_of_getElem? (i := 1) rfl)) (ty := .boolean) (v' := (.int p4)) (by decide) hn4 hf4 (g := (mkF m 22 #[.val (.ref a1), .val (.int p1), .val (.int p2), .val (.int p3), .val (.int p4)] [(.int p4), (.ref a1)])) rfl rfl (hb hby dC_22)
  have pre18 : Go p e below T17 (mkF m 25 #[.val (.ref a1), .val (.int p1), .val (.int p2), .val (.int p3), .val (.int p4)] []) s₁ (entryFrame m #[(.ref a1), (.int p1), (.int p2), (.int p3), (.int p4)] 5) := fun t k => pre16 t (st17 t k)
  have Z19 : n0 ≤ h17.size := Nat.le_trans Z15 (Keep.of_wr W17).1
  have K19 : Keep h0 h17 [a1] := K15.wr W17 (Or.inl (List.mem_of_getElem? (i := 0) rfl))
  have Fw17 := Fld.same W17 (Fld.other W13 (Fld.other W9 (Fld.other W5 F4 (Or.inr (slot_ne (Or.inr (hw _ (List.mem_of_getElem? (i := 21) rfl))) (Or.inr (hw _ (List.mem_of_getElem? (i := 15) rfl))) (by decide) (t := .boolean) (t' := .boolean) (by decide) (by decide)))) (Or.inr (slot_ne (Or.inr (hw _ (List.mem_of_getElem? (i := 21) rfl))) (Or.inr (hw _ (List.mem_of_getElem? (i := 17) rfl))) (by decide) (t := .boolean) (t' := .boolean) (by decide) (by decide)))) (Or.inr (slot_ne (Or.inr (hw _ (List.mem_of_getElem? (i := 21) rfl))) (Or.inr (hw _ (List.mem_of_getElem? (i := 19) rfl))) (by decide) (t := .boolean) (t' := .boolean) (by decide) (by decide))))
  have N17 := Fr.snoc X17 N13 g_a1
  obtain ⟨fs, hr, hrun, hended, hW, hsame⟩ := X17.leave (v := none) (fun _ => rfl)
  refine ⟨_, _, pre18 _ (X17.returnOut hx Bd.returns (hb hby dC_25) hr), hrun, hended, _, _, rfl, ?_, ⟨_, rfl⟩, hW, hsame.mono (by decide) (by decide)⟩
  show QC Z a1 p1 p2 p3 p4 h0 n0 _ T17.heap _
  rw [e17]
  exact ⟨rfl, N17, K19, ((((E1.wr W5).wr W9).wr W13).wr W17), (Fld.other W17 (Fld.other W13 (Fld.other W9 Fw5 (Or.inr (slot_ne (Or.inr (hw _ (List.mem_of_getElem? (i := 15) rfl))) (Or.inr (hw _ (List.mem_of_getElem? (i := 17) rfl))) (by decide) (t := .boolean) (t' := .boolean) (by decide) (by decide)))) (Or.inr (slot_ne (Or.inr (hw _ (List.mem_of_getElem? (i := 15) rfl))) (Or.inr (hw _ (List.mem_of_getElem? (i := 19) rfl))) (by decide) (t := .boolean) (t' := .boolean) (by decide) (by decide)))) (Or.inr (slot_ne (Or.inr (hw _ (List.mem_of_getElem? (i := 15) rfl))) (Or.inr (hw _ (List.mem_of_getElem? (i := 21) rfl))) (by decide) (t := .boolean) (t' := .boolean) (by decide) (by decide)))), (Fld.other W17 (Fld.other W13 Fw9 (Or.inr (slot_ne (Or.inr (hw _ (List.mem_of_getElem? (i := 17) rfl))) (Or.inr (hw _ (List.mem_of_getElem? (i := 19) rfl))) (by decide) (t := .boolean) (t' := .boolean) (by decide) (by decide)))) (Or.inr (slot_ne (Or.inr (hw _ (List.mem_of_getElem? (i := 17) rfl))) (Or.inr (hw _ (List.mem_of_getElem? (i := 21) rfl))) (by decide) (t := .boolean) (t' := .boolean) (by decide) (by decide)))), (Fld.other W17 Fw13 (Or.inr (slot_ne (Or.inr (hw _ (List.mem_of_getElem? (i := 19) rfl))) (Or.inr (hw _ (List.mem_of_getElem? (i := 21) rfl))) (by decide) (t := .boolean) (t' := .boolean) (by decide) (by decide)))), Fw17⟩
def towF (a b c d : Int32) (w0 w1 w2 : Addr) : Addr := if a = 0 then (if b = 0 then w0 else if c = 0 then w0 else w1) else if d = 0 then (if b = 0 then w0 else if c = 0 then w0 else w1) else w2
theorem dT_0 : decode prog_40_method_2_code 0 = .ok (.getstatic 22, 3) := by decide +kernel
theorem dT_3 : decode prog_40_method_2_code 3 = .ok (.astore_n 1, 1) := by decide +kernel
theorem dT_4 : decode prog_40_method_2_code 4 = .ok (.aload_n 0, 1) := by decide +kernel
theorem dT_5 : decode prog_40_method_2_code 5 = .ok (.getfield 7, 3) := by decide +kernel
theorem dT_8 : decode prog_40_method_2_code 8 = .ok (.ifCond .eq 17, 3) := by decide +kernel
theorem dT_11 : decode prog_40_method_2_code 11 = .ok (.aload_n 0, 1) := by decide +kernel
theorem dT_12 : decode prog_40_method_2_code 12 = .ok (.getfield 19, 3) := by decide +kernel
theorem dT_15 : decode prog_40_method_2_code 15 = .ok (.ifCond .eq 10, 3) := by decide +kernel
theorem dT_18 : decode prog_40_method_2_code 18 = .ok (.getstatic 28, 3) := by decide +kernel
theorem dT_21 : decode prog_40_method_2_code 21 = .ok (.astore_n 1, 1) := by decide +kernel
theorem dT_22 : decode prog_40_method_2_code 22 = .ok (.goto 21, 3) := by decide +kernel
theorem dT_25 : decode prog_40_method_2_code 25 = .ok (.aload_n 0, 1) := by decide +kernel
theorem dT_26 : decode prog_40_method_2_code 26 = .ok (.getfield 13, 3) := by decide +kernel
theorem dT_29 : decode prog_40_method_2_code 29 = .ok (.ifCond .eq 14, 3) := by decide +kernel
theorem dT_32 : decode prog_40_method_2_code 32 = .ok (.aload_n 0, 1) := by decide +kernel
theorem dT_33 : decode prog_40_method_2_code 33 = .ok (.getfield 16, 3) := by decide +kernel
theorem dT_36 : decode prog_40_method_2_code 36 = .ok (.ifCond .eq 7, 3) := by decide +kernel
theorem dT_39 : decode prog_40_method_2_code 39 = .ok (.getstatic 31, 3) := by decide +kernel
theorem dT_42 : decode prog_40_method_2_code 42 = .ok (.astore_n 1, 1) := by decide +kernel
theorem dT_43 : decode prog_40_method_2_code 43 = .ok (.aload_n 1, 1) := by decide +kernel
theorem dT_44 : decode prog_40_method_2_code 44 = .ok (.areturn, 1) := by decide +kernel
theorem pnT : plainName "com/example/picketline/picketline/protocol/Surroundings" = true := by first | (simp [plainName, overriddenIn]; done) | decide +kernel
theorem efT (m : MethodId) (a1 : Addr) : entryFrame m #[(.ref a1)] 2 = mkF m 0 #[.val (.ref a1), .unset] [] := by first | (simp [entryFrame, mkF, argsToLocals, Value.category]; done) | rfl
def QT (Z : State) (a1 : Addr) (q1 : Int32) (q2 : Int32) (q3 : Int32) (q4 : Int32) (w0 : Addr) (w1 : Addr) (w2 : Addr) (r : Addr) (h0 : Heap) (n0 : Nat) (v : Option Value) (h : Heap) (L : List Loc) : Prop := v = some (.ref r) ∧ Fr n0 L ∧ h = h0
set_option maxRecDepth 65536 in
set_option maxHeartbeats 40000000 in
theorem rmT (l : Launch) (Z : State) (a0 : Array Value) (hw : ∀ d ∈ tables_1, d.before a0 Z = true) (ws : List Jvm.Cond) (a1 : Addr) (q1 : Int32) (q2 : Int32) (q3 : Int32) (q4 : Int32) (w0 : Addr) (w1 : Addr) (w2 : Addr) (r : Addr) (h0 : Heap) (n0 : Nat) (Z0 : n0 ≤ h0.size) (F1 : Fld Z h0 a1 "com/example/picketline/picketline/protocol/Surroundings" "seesLeft" "Z" (.int q1)) (F2 : Fld Z h0 a1 "com/example/picketline/picketline/protocol/Surroundings" "seesRight" "Z" (.int q2)) (F3 : Fld Z h0 a1 "com/example/picketline/picketline/protocol/Surroundings" "gapLeft" "Z" (.int q3)) (F4 : Fld Z h0 a1 "com/example/picketline/picketline/protocol/Surroundings" "gapRight" "Z" (.int q4)) (S0 : Sta Z h0 "com/example/picketline/picketline/protocol/Heading" "STILL" "Lcom/example/picketline/picketline/protocol/Heading;" (.ref w0)) (S1 : Sta Z h0 "com/example/picketline/picketline/protocol/Heading" "LEFT" "Lcom/example/picketline/picketline/protocol/Heading;" (.ref w1)) (S2 : Sta Z h0 "com/example/picketline/picketline/protocol/Heading" "RIGHT" "Lcom/example/picketline/picketline/protocol/Heading;" (.ref w2)) (hR : towF q1 q2 q3 q4 w0 w1 w2 = r) :
    MetFree l (⟨"com/example/picketline/picketline/protocol/Surroundings", "towardGap", "()Lcom/example/picketline/picketline/protocol/Heading;"⟩ : MethodName) (head1 (Jvm.Cond.code (⟨"com/example/picketline/picketline/protocol/Surroundings", "towardGap", "()Lcom/example/picketline/picketline/protocol/Heading;"⟩ : MethodName) prog_40_method_2_code 2 (some (.object "com/example/picketline/picketline/protocol/Heading")) :: ws) ({ frames := 0, cells := 0, slots := 0, locals := 0 } : Room)) (fun a U => a = #[(.ref a1)] ∧ Z.Warmed39 U.vm ∧ U.heap = h0) (fun _ _ _ _ _ => True) (fun _ U o U' => ∃ v L, o = .returned v ∧ QT Z a1 q1 q2 q3 q4 w0 w1 w2 r h0 n0 v U'.heap L ∧ FrameEnd U o U' L ({ frames := 0, cells := 0, slots := 0, locals := 0 } : Room).cells ({ frames := 0, cells := 0, slots := 0, locals := 0 } : Room).slots) := by
  refine MetFree.of_bodySF (plainFor_of_name pnT) hisR ?_
  intro p e s m args below meth c s₁ Bd hml0 hP hK
  obtain ⟨rfl, hZ, hh⟩ := hP
  have hx := Bd.exec
  have hby := Bd.bytes
  have hml : c.maxLocals = 2 := hml0
  have hown : s.vm.findClass "com/example/picketline/picketline/protocol/Surroundings" = some m.cls := findClass_of_methodNamed Bd.named
  have hnm := (name_of_methodNamed Bd.named Bd.method).1
  have X0 : Stand p l e ({ frames := 0, cells := 0, slots := 0, locals := 0 } : Room) s m #[(.ref a1)] below meth c s₁ [] 0 0 := Stand.of_body Bd
  have e0 : s₁.heap = h0 := by rw [← hh, Bd.state]; rfl
  have N0 := Fr.nil n0
  have pre0 : Go p e below s₁ (mkF m 0 #[.val (.ref a1), .unset] []) s₁ (entryFrame m #[(.ref a1)] 2) := fun t k => castTop (efT m a1) k
  obtain ⟨T1, X1, e1, st1⟩ := getS2 X0 hx hZ hown (host := "") (Or.inl (hw _ (List.mem_of_getElem? (i := 27) rfl))) Via.refl e0 S0 (g := (mkF m 0 #[.val (.ref a1), .unset] [])) rfl (hb hby dT_0)
  have pre2 : Go p e below T1 (mkF m 3 #[.val (.ref a1), .unset] [(.ref w0)]) s₁ (entryFrame m #[(.ref a1)] 2) := fun t k => pre0 t (st1 t k)
  have pre3 : Go p e below T1 (mkF m 5 #[.val (.ref a1), .val (.ref w0)] [(.ref a1)]) s₁ (entryFrame m #[(.ref a1)] 2) := fun t k => pre2 t (by
      show Steps p.tables e below (T1.setTop (mkF m 3 #[.val (.ref a1), .unset] [(.ref w0)])) t
      refine XS.astoreN X1.here hx rfl (hb hby dT_3) rfl rfl (l' := #[.val (.ref a1), .val (.ref w0)]) rfl ?_
      show Steps p.tables e below (T1.setTop (mkF m 4 #[.val (.ref a1), .val (.ref w0)] [])) t
      refine XS.aloadN X1.here hx rfl (hb hby dT_4) rfl rfl ?_
      exact k)
  obtain ⟨T4, X4, e4, st4⟩ := getF X1 hx hZ hown (host := "") (Or.inl (hw _ (List.mem_of_getElem? (i := 14) rfl))) Via.refl e1 F1 (g := (mkF m 5 #[.val (.ref a1), .val (.ref w0)] [(.ref a1)])) rfl rfl (hb hby dT_5)
  have pre5 : Go p e below T4 (mkF m 8 #[.val (.ref a1), .val (.ref w0)] [(.int q1)]) s₁ (entryFrame m #[(.ref a1)] 2) := fun t k => pre3 t (st4 t k)
  by_cases hc8 : q1 = (0 : Int32)
  · have pre6 : Go p e below T4 (mkF m 25 #[.val (.ref a1), .val (.ref w0)] []) s₁ (entryFrame m #[(.ref a1)] 2) := fun t k => pre5 t (XS.ifYes X4.here hx rfl (pc0 := 8) (pc' := 25) rfl (hb hby dT_8) rfl ((if0 _ _).trans (teq hc8).1) (by decide) (by decide) k)
    have pre7 : Go p e below T4 (mkF m 26 #[.val (.ref a1), .val (.ref w0)] [(.ref a1)]) s₁ (entryFrame m #[(.ref a1)] 2) := fun t k => pre6 t (by
        show Steps p.tables e below (T4.setTop (mkF m 25 #[.val (.ref a1), .val (.ref w0)] [])) t
        refine XS.aloadN X4.here hx rfl (hb hby dT_25) rfl rfl ?_
        exact k)
    obtain ⟨T8, X8, e8, st8⟩ := getF X4 hx hZ hown (host := "") (Or.inl (hw _ (List.mem_of_getElem? (i := 16) rfl))) Via.refl e4 F2 (g := (mkF m 26 #[.val (.ref a1), .val (.ref w0)] [(.ref a1)])) rfl rfl (hb hby dT_26)
    have pre9 : Go p e below T8 (mkF m 29 #[.val (.ref a1), .val (.ref w0)] [(.int q2)]) s₁ (entryFrame m #[(.ref a1)] 2) := fun t k => pre7 t (st8 t k)
    by_cases hc29 : q2 = (0 : Int32)
    · have pre10 : Go p e below T8 (mkF m 43 #[.val (.ref a1), .val (.ref w0)] []) s₁ (entryFrame m #[(.ref a1)] 2) := fun t k => pre9 t (XS.ifYes X8.here hx rfl (pc0 := 29) (pc' := 43) rfl (hb hby dT_29) rfl ((if0 _ _).trans (teq hc29).1) (by decide) (by decide) k)
      have pre11 : Go p e below T8 (mkF m 44 #[.val (.ref a1), .val (.ref w0)] [(.ref w0)]) s₁ (entryFrame m #[(.ref a1)] 2) := fun t k => pre10 t (by
          show Steps p.tables e below (T8.setTop (mkF m 43 #[.val (.ref a1), .val (.ref w0)] [])) t
          refine XS.aloadN X8.here hx rfl (hb hby dT_43) rfl rfl ?_
          exact k)
      obtain ⟨fs, hr, hrun, hended, hW, hsame⟩ := X8.leave (v := some (.ref w0)) (fun h => by rw [Bd.returns] at h; cases h)
      refine ⟨_, _, pre11 _ (retOut X8 hx Bd.returns rfl (Or.inr (Or.inr (Or.inr (Or.inr ⟨rfl, rfl, rfl⟩)))) (hb hby dT_44) hr), hrun, hended, _, _, rfl, ?_, ⟨_, rfl⟩, hW, hsame.mono (by decide) (by decide)⟩
      show QT Z a1 q1 q2 q3 q4 w0 w1 w2 r h0 n0 _ T8.heap _
      rw [e8]
      exact ⟨by rw [← hR]; simp [towF, hc8, hc29], N0, rfl⟩
    · have pre12 : Go p e below T8 (mkF m 32 #[.val (.ref a1), .val (.ref w0)] []) s₁ (entryFrame m #[(.ref a1)] 2) := fun t k => pre9 t (XS.ifNo X8.here hx rfl (hb hby dT_29) rfl ((if0 _ _).trans (feq hc29).1) k)
      have pre13 : Go p e below T8 (mkF m 33 #[.val (.ref a1), .val (.ref w0)] [(.ref a1)]) s₁ (entryFrame m #[(.ref a1)] 2) := fun t k => pre12 t (by
          show Steps p.tables e below (T8.setTop (mkF m 32 #[.val (.ref a1), .val (.ref w0)] [])) t
          refine XS.aloadN X8.here hx rfl (hb hby dT_32) rfl rfl ?_
          exact k)
      obtain ⟨T14, X14, e14, st14⟩ := getF X8 hx hZ hown (host := "") (Or.inl (hw _ (List.mem_of_getElem? (i := 18) rfl))) Via.refl e8 F3 (g := (mkF m 33 #[.val (.ref a1), .val (.ref w0)] [(.ref a1)])) rfl rfl (hb hby dT_33)
      have pre15 : Go p e below T14 (mkF m 36 #[.val (.ref a1), .val (.ref w0)] [(.int q3)]) s₁ (entryFrame m #[(.ref a1)] 2) := fun t k => pre13 t (st14 t k)
      by_cases hc36 : q3 = (0 : Int32)
      · have pre16 : Go p e below T14 (mkF m 43 #[.val (.ref a1), .val (.ref w0)] []) s₁ (entryFrame m #[(.ref a1)] 2) := fun t k => pre15 t (XS.ifYes X14.here hx rfl (pc0 := 36) (pc' := 43) rfl (hb hby dT_36) rfl ((if0 _ _).trans (teq hc36).1) (by decide) (by decide) k)
        have pre17 : Go p e below T14 (mkF m 44 #[.val (.ref a1), .val (.ref w0)] [(.ref w0)]) s₁ (entryFrame m #[(.ref a1)] 2) := fun t k => pre16 t (by
            show Steps p.tables e below (T14.setTop (mkF m 43 #[.val (.ref a1), .val (.ref w0)] [])) t
            refine XS.aloadN X14.here hx rfl (hb hby dT_43) rfl rfl ?_
            exact k)
        obtain ⟨fs, hr, hrun, hended, hW, hsame⟩ := X14.leave (v := some (.ref w0)) (fun h => by rw [Bd.returns] at h; cases h)
        refine ⟨_, _, pre17 _ (retOut X14 hx Bd.returns rfl (Or.inr (Or.inr (Or.inr (Or.inr ⟨rfl, rfl, rfl⟩)))) (hb hby dT_44) hr), hrun, hended, _, _, rfl, ?_, ⟨_, rfl⟩, hW, hsame.mono (by decide) (by decide)⟩
        show QT Z a1 q1 q2 q3 q4 w0 w1 w2 r h0 n0 _ T14.heap _
        rw [e14]
        exact ⟨by rw [← hR]; simp [towF, hc8, hc29, hc36], N0, rfl⟩
      · have pre18 : Go p e below T14 (mkF m 39 #[.val (.ref a1), .val (.ref w0)] []) s₁ (entryFrame m #[(.ref a1)] 2) := fun t k => pre15 t (XS.ifNo X14.here hx rfl (hb hby dT_36) rfl ((if0 _ _).trans (feq hc36).1) k)
        obtain ⟨T19, X19, e19, st19⟩ := getS2 X14 hx hZ hown (host := "") (Or.inl (hw _ (List.mem_of_getElem? (i := 31) rfl))) Via.refl e14 S1 (g := (mkF m 39 #[.val (.ref a1), .val (.ref w0)] [])) rfl (hb hby dT_39)
        have pre20 : Go p e below T19 (mkF m 42 #[.val (.ref a1), .val (.ref w0)] [(.ref w1)]) s₁ (entryFrame m #[(.ref a1)] 2) := fun t k => pre18 t (st19 t k)
        have pre21 : Go p e below T19 (mkF m 44 #[.val (.ref a1), .val (.ref w1)] [(.ref w1)]) s₁ (entryFrame m #[(.ref a1)] 2) := fun t k => pre20 t (by
            show Steps p.tables e below (T19.setTop (mkF m 42 #[.val (.ref a1), .val (.ref w0)] [(.ref w1)])) t
            refine XS.astoreN X19.here hx rfl (hb hby dT_42) rfl rfl (l' := #[.val (.ref a1), .val (.ref w1)]) rfl ?_
            show Steps p.tables e below (T19.setTop (mkF m 43 #[.val (.ref a1), .val (.ref w1)] [])) t
            refine XS.aloadN X19.here hx rfl (hb hby dT_43) rfl rfl ?_
            exact k)
        obtain ⟨fs, hr, hrun, hended, hW, hsame⟩ := X19.leave (v := some (.ref w1)) (fun h => by rw [Bd.returns] at h; cases h)
        refine ⟨_, _, pre21 _ (retOut X19 hx Bd.returns rfl (Or.inr (Or.inr (Or.inr (Or.inr ⟨rfl, rfl, rfl⟩)))) (hb hby dT_44) hr), hrun, hended, _, _, rfl, ?_, ⟨_, rfl⟩, hW, hsame.mono (by decide) (by decide)⟩
        show QT Z a1 q1 q2 q3 q4 w0 w1 w2 r h0 n0 _ T19.heap _
        rw [e19]
        exact ⟨by rw [← hR]; simp [towF, hc8, hc29, hc36], N0, rfl⟩
  · have pre22 : Go p e below T4 (mkF m 11 #[.val (.ref a1), .val (.ref w0)] []) s₁ (entryFrame m #[(.ref a1)] 2) := fun t k => pre5 t (XS.ifNo X4.here hx rfl (hb hby dT_8) rfl ((if0 _ _).trans (feq hc8).1) k)
    have pre23 : Go p e below T4 (mkF m 12 #[.val (.ref a1), .val (.ref w0)] [(.ref a1)]) s₁ (entryFrame m #[(.ref a1)] 2) := fun t k => pre22 t (by
        show Steps p.tables e below (T4.setTop (mkF m 11 #[.val (.ref a1), .val (.ref w0)] [])) t
        refine XS.aloadN X4.here hx rfl (hb hby dT_11) rfl rfl ?_
        exact k)
    obtain ⟨T24, X24, e24, st24⟩ := getF X4 hx hZ hown (host := "") (Or.inl (hw _ (List.mem_of_getElem? (i := 20) rfl))) Via.refl e4 F4 (g := (mkF m 12 #[.val (.ref a1), .val (.ref w0)] [(.ref a1)])) rfl rfl (hb hby dT_12)
    have pre25 : Go p e below T24 (mkF m 15 #[.val (.ref a1), .val (.ref w0)] [(.int q4)]) s₁ (entryFrame m #[(.ref a1)] 2) := fun t k => pre23 t (st24 t k)
    by_cases hc15 : q4 = (0 : Int32)
    · have pre26 : Go p e below T24 (mkF m 25 #[.val (.ref a1), .val (.ref w0)] []) s₁ (entryFrame m #[(.ref a1)] 2) := fun t k => pre25 t (XS.ifYes X24.here hx rfl (pc0 := 15) (pc' := 25) rfl (hb hby dT_15) rfl ((if0 _ _).trans (teq hc15).1) (by decide) (by decide) k)
      have pre27 : Go p e below T24 (mkF m 26 #[.val (.ref a1), .val (.ref w0)] [(.ref a1)]) s₁ (entryFrame m #[(.ref a1)] 2) := fun t k => pre26 t (by
          show Steps p.tables e below (T24.setTop (mkF m 25 #[.val (.ref a1), .val (.ref w0)] [])) t
          refine XS.aloadN X24.here hx rfl (hb hby dT_25) rfl rfl ?_
          exact k)
      obtain ⟨T28, X28, e28, st28⟩ := getF X24 hx hZ hown (host := "") (Or.inl (hw _ (List.mem_of_getElem? (i := 16) rfl))) Via.refl e24 F2 (g := (mkF m 26 #[.val (.ref a1), .val (.ref w0)] [(.ref a1)])) rfl rfl (hb hby dT_26)
      have pre29 : Go p e below T28 (mkF m 29 #[.val (.ref a1), .val (.ref w0)] [(.int q2)]) s₁ (entryFrame m #[(.ref a1)] 2) := fun t k => pre27 t (st28 t k)
      by_cases hc29 : q2 = (0 : Int32)
      · have pre30 : Go p e below T28 (mkF m 43 #[.val (.ref a1), .val (.ref w0)] []) s₁ (entryFrame m #[(.ref a1)] 2) := fun t k => pre29 t (XS.ifYes X28.here hx rfl (pc0 := 29) (pc' := 43) rfl (hb hby dT_29) rfl ((if0 _ _).trans (teq hc29).1) (by decide) (by decide) k)
        have pre31 : Go p e below T28 (mkF m 44 #[.val (.ref a1), .val (.ref w0)] [(.ref w0)]) s₁ (entryFrame m #[(.ref a1)] 2) := fun t k => pre30 t (by
            show Steps p.tables e below (T28.setTop (mkF m 43 #[.val (.ref a1), .val (.ref w0)] [])) t
            refine XS.aloadN X28.here hx rfl (hb hby dT_43) rfl rfl ?_
            exact k)
        obtain ⟨fs, hr, hrun, hended, hW, hsame⟩ := X28.leave (v := some (.ref w0)) (fun h => by rw [Bd.returns] at h; cases h)
        refine ⟨_, _, pre31 _ (retOut X28 hx Bd.returns rfl (Or.inr (Or.inr (Or.inr (Or.inr ⟨rfl, rfl, rfl⟩)))) (hb hby dT_44) hr), hrun, hended, _, _, rfl, ?_, ⟨_, rfl⟩, hW, hsame.mono (by decide) (by decide)⟩
        show QT Z a1 q1 q2 q3 q4 w0 w1 w2 r h0 n0 _ T28.heap _
        rw [e28]
        exact ⟨by rw [← hR]; simp [towF, hc8, hc15, hc29], N0, rfl⟩
      · have pre32 : Go p e below T28 (mkF m 32 #[.val (.ref a1), .val (.ref w0)] []) s₁ (entryFrame m #[(.ref a1)] 2) := fun t k => pre29 t (XS.ifNo X28.here hx rfl (hb hby dT_29) rfl ((if0 _ _).trans (feq hc29).1) k)
        have pre33 : Go p e below T28 (mkF m 33 #[.val (.ref a1), .val (.ref w0)] [(.ref a1)]) s₁ (entryFrame m #[(.ref a1)] 2) := fun t k => pre32 t (by
            show Steps p.tables e below (T28.setTop (mkF m 32 #[.val (.ref a1), .val (.ref w0)] [])) t
            refine XS.aloadN X28.here hx rfl (hb hby dT_32) rfl rfl ?_
            exact k)
        obtain ⟨T34, X34, e34, st34⟩ := getF X28 hx hZ hown (host := "") (Or.inl (hw _ (List.mem_of_getElem? (i := 18) rfl))) Via.refl e28 F3 (g := (mkF m 33 #[.val (.ref a1), .val (.ref w0)] [(.ref a1)])) rfl rfl (hb hby dT_33)
        have pre35 : Go p e below T34 (mkF m 36 #[.val (.ref a1), .val (.ref w0)] [(.int q3)]) s₁ (entryFrame m #[(.ref a1)] 2) := fun t k => pre33 t (st34 t k)
        by_cases hc36 : q3 = (0 : Int32)
        · have pre36 : Go p e below T34 (mkF m 43 #[.val (.ref a1), .val (.ref w0)] []) s₁ (entryFrame m #[(.ref a1)] 2) := fun t k => pre35 t (XS.ifYes X34.here hx rfl (pc0 := 36) (pc' := 43) rfl (hb hby dT_36) rfl ((if0 _ _).trans (teq hc36).1) (by decide) (by decide) k)
          have pre37 : Go p e below T34 (mkF m 44 #[.val (.ref a1), .val (.ref w0)] [(.ref w0)]) s₁ (entryFrame m #[(.ref a1)] 2) := fun t k => pre36 t (by
              show Steps p.tables e below (T34.setTop (mkF m 43 #[.val (.ref a1), .val (.ref w0)] [])) t
              refine XS.aloadN X34.here hx rfl (hb hby dT_43) rfl rfl ?_
              exact k)
          obtain ⟨fs, hr, hrun, hended, hW, hsame⟩ := X34.leave (v := some (.ref w0)) (fun h => by rw [Bd.returns] at h; cases h)
          refine ⟨_, _, pre37 _ (retOut X34 hx Bd.returns rfl (Or.inr (Or.inr (Or.inr (Or.inr ⟨rfl, rfl, rfl⟩)))) (hb hby dT_44) hr), hrun, hended, _, _, rfl, ?_, ⟨_, rfl⟩, hW, hsame.mono (by decide) (by decide)⟩
          show QT Z a1 q1 q2 q3 q4 w0 w1 w2 r h0 n0 _ T34.heap _
          rw [e34]
          exact ⟨by rw [← hR]; simp [towF, hc8, hc15, hc29, hc36], N0, rfl⟩
        · have pre38 : Go p e below T34 (mkF m 39 #[.val (.ref a1), .val (.ref w0)] []) s₁ (entryFrame m #[(.ref a1)] 2) := fun t k => pre35 t (XS.ifNo X34.here hx rfl (hb hby dT_36) rfl ((if0 _ _).trans (feq hc36).1) k)
          obtain ⟨T39, X39, e39, st39⟩ := getS2 X34 hx hZ hown (host := "") (Or.inl (hw _ (List.mem_of_getElem? (i := 31) rfl))) Via.refl e34 S1 (g := (mkF m 39 #[.val (.ref a1), .val (.ref w0)] [])) rfl (hb hby dT_39)
          have pre40 : Go p e below T39 (mkF m 42 #[.val (.ref a1), .val (.ref w0)] [(.ref w1)]) s₁ (entryFrame m #[(.ref a1)] 2) := fun t k => pre38 t (st39 t k)
          have pre41 : Go p e below T39 (mkF m 44 #[.val (.ref a1), .val (.ref w1)] [(.ref w1)]) s₁ (entryFrame m #[(.ref a1)] 2) := fun t k => pre40 t (by
              show Steps p.tables e below (T39.setTop (mkF m 42 #[.val (.ref a1), .val (.ref w0)] [(.ref w1)])) t
              refine XS.astoreN X39.here hx rfl (hb hby dT_42) rfl rfl (l' := #[.val (.ref a1), .val (.ref w1)]) rfl ?_
              show Steps p.tables e below (T39.setTop (mkF m 43 #[.val (.ref a1), .val (.ref w1)] [])) t
              refine XS.aloadN X39.here hx rfl (hb hby dT_43) rfl rfl ?_
              exact k)
          obtain ⟨fs, hr, hrun, hended, hW, hsame⟩ := X39.leave (v := some (.ref w1)) (fun h => by rw [Bd.returns] at h; cases h)
          refine ⟨_, _, pre41 _ (retOut X39 hx Bd.returns rfl (Or.inr (Or.inr (Or.inr (Or.inr ⟨rfl, rfl, rfl⟩)))) (hb hby dT_44) hr), hrun, hended, _, _, rfl, ?_, ⟨_, rfl⟩, hW, hsame.mono (by decide) (by decide)⟩
          show QT Z a1 q1 q2 q3 q4 w0 w1 w2 r h0 n0 _ T39.heap _
          rw [e39]
          exact ⟨by rw [← hR]; simp [towF, hc8, hc15, hc29, hc36], N0, rfl⟩
    · have pre42 : Go p e below T24 (mkF m 18 #[.val (.ref a1), .val (.ref w0)] []) s₁ (entryFrame m #[(.ref a1)] 2) := fun t k => pre25 t (XS.ifNo X24.here hx rfl (hb hby dT_15) rfl ((if0 _ _).trans (feq hc15).1) k)
      obtain ⟨T43, X43, e43, st43⟩ := getS2 X24 hx hZ hown (host := "") (Or.inl (hw _ (List.mem_of_getElem? (i := 34) rfl))) Via.refl e24 S2 (g := (mkF m 18 #[.val (.ref a1), .val (.ref w0)] [])) rfl (hb hby dT_18)
      have pre44 : Go p e below T43 (mkF m 21 #[.val (.ref a1), .val (.ref w0)] [(.ref w2)]) s₁ (entryFrame m #[(.ref a1)] 2) := fun t k => pre42 t (st43 t k)
      have pre45 : Go p e below T43 (mkF m 44 #[.val (.ref a1), .val (.ref w2)] [(.ref w2)]) s₁ (entryFrame m #[(.ref a1)] 2) := fun t k => pre44 t (by
          show Steps p.tables e below (T43.setTop (mkF m 21 #[.val (.ref a1), .val (.ref w0)] [(.ref w2)])) t
          refine XS.astoreN X43.here hx rfl (hb hby dT_21) rfl rfl (l' := #[.val (.ref a1), .val (.ref w2)]) rfl ?_
          show Steps p.tables e below (T43.setTop (mkF m 22 #[.val (.ref a1), .val (.ref w2)] [])) t
          refine XS.goto X43.here hx rfl (pc0 := 22) (pc' := 43) rfl (hb hby dT_22) (by decide) (by decide) ?_
          show Steps p.tables e below (T43.setTop (mkF m 43 #[.val (.ref a1), .val (.ref w2)] [])) t
          refine XS.aloadN X43.here hx rfl (hb hby dT_43) rfl rfl ?_
          exact k)
      obtain ⟨fs, hr, hrun, hended, hW, hsame⟩ := X43.leave (v := some (.ref w2)) (fun h => by rw [Bd.returns] at h; cases h)
      refine ⟨_, _, pre45 _ (retOut X43 hx Bd.returns rfl (Or.inr (Or.inr (Or.inr (Or.inr ⟨rfl, rfl, rfl⟩)))) (hb hby dT_44) hr), hrun, hended, _, _, rfl, ?_, ⟨_, rfl⟩, hW, hsame.mono (by decide) (by decide)⟩
      show QT Z a1 q1 q2 q3 q4 w0 w1 w2 r h0 n0 _ T43.heap _
      rw [e43]
      exact ⟨by rw [← hR]; simp [towF, hc8, hc15], N0, rfl⟩
theorem pnL : plainName "com/example/picketline/picketline/protocol/SurroundingsTowardGapPinLaw" = true := by first | (simp [plainName, overriddenIn]; done) | decide +kernel
theorem pdL_0 : parseMethodDescriptor "(ZZZZ)V" = some ⟨[.boolean, .boolean, .boolean, .boolean], none⟩ := by decide +kernel
theorem pdL_1 : parseMethodDescriptor "()Lcom/example/picketline/picketline/protocol/Heading;" = some ⟨[], some (.object "com/example/picketline/picketline/protocol/Heading")⟩ := by decide +kernel
theorem efL (m : MethodId) (p1 : Int32) : entryFrame m #[(.int p1)] maxLocals = mkF m 0 #[.val (.int p1), .unset, .unset, .unset, .unset, .unset, .unset, .unset, .unset, .unset, .unset] [] := by first | (simp [entryFrame, mkF, argsToLocals, Value.category, maxLocals]; done) | rfl
def QL (Z : State) (p1 : Int32) (w0 : Addr) (w1 : Addr) (w2 : Addr) (h0 : Heap) (n0 : Nat) (v : Option Value) (h : Heap) (L : List Loc) : Prop := v = some (.int 1) ∧ Fr n0 L
set_option maxRecDepth 65536 in
set_option maxHeartbeats 40000000 in
theorem rmL (l : Launch) (Z : State) (a0 : Array Value) (hw : ∀ d ∈ tables_1, d.before a0 Z = true) (ws : List Jvm.Cond) (p1 : Int32) (w0 : Addr) (w1 : Addr) (w2 : Addr) (h0 : Heap) (n0 : Nat) (Z0 : n0 ≤ h0.size) (O0 : Old Z n0 h0) (S0 : Sta Z Z.heap "com/example/picketline/picketline/protocol/Heading" "STILL" "Lcom/example/picketline/picketline/protocol/Heading;" (.ref w0)) (S1 : Sta Z Z.heap "com/example/picketline/picketline/protocol/Heading" "LEFT" "Lcom/example/picketline/picketline/protocol/Heading;" (.ref w1)) (S2 : Sta Z Z.heap "com/example/picketline/picketline/protocol/Heading" "RIGHT" "Lcom/example/picketline/picketline/protocol/Heading;" (.ref w2)) :
    MetFree l x (head1 (Jvm.Cond.code x code maxLocals ret :: ws) room_1) (fun a U => a = #[(.int p1)] ∧ Z.Warmed39 U.vm ∧ U.heap = h0) (fun _ _ _ _ _ => True) (fun _ U o U' => ∃ v L, o = .returned v ∧ QL Z p1 w0 w1 w2 h0 n0 v U'.heap L ∧ FrameEnd U o U' L room_1.cells room_1.slots) := by
  refine MetFree.of_bodySF (plainFor_of_name pnL) hisR ?_
  intro p e s m args below meth c s₁ Bd hml0 hP hK
  obtain ⟨rfl, hZ, hh⟩ := hP
  have hx := Bd.exec
  have hby := Bd.bytes
  have hml : c.maxLocals = 11 := hml0
  have hown : s.vm.findClass "com/example/picketline/picketline/protocol/SurroundingsTowardGapPinLaw" = some m.cls := findClass_of_methodNamed Bd.named
  have hnm := (name_of_methodNamed Bd.named Bd.method).1
  have X0 : Stand p l e room_1 s m #[(.int p1)] below meth c s₁ [] 0 0 := Stand.of_body Bd
  have e0 : s₁.heap = h0 := by rw [← hh, Bd.state]; rfl
  have N0 := Fr.nil n0
  have pre0 : Go p e below s₁ (mkF m 0 #[.val (.int p1), .unset, .unset, .unset, .unset, .unset, .unset, .unset, .unset, .unset, .unset] []) s₁ (entryFrame m #[(.int p1)] maxLocals) := fun t k => castTop (efL m p1) k
  have pre1 : Go p e below s₁ (mkF m 3 #[.val (.int p1), .unset, .unset, .unset, .unset, .unset, .unset, .unset, .unset, .unset, .unset] [(.int (p1 &&& (1 : Int32)))]) s₁ (entryFrame m #[(.int p1)] maxLocals) := fun t k => pre0 t (by
      show Steps p.tables e below (s₁.setTop (mkF m 0 #[.val (.int p1), .unset, .unset, .unset, .unset, .unset, .unset, .unset, .unset, .unset, .unset] [])) t
      refine XS.iloadN X0.here hx rfl (hb hby at_0) rfl ?_
      show Steps p.tables e below (s₁.setTop (mkF m 1 #[.val (.int p1), .unset, .unset, .unset, .unset, .unset, .unset, .unset, .unset, .unset, .unset] [(.int p1)])) t
      refine XS.iconst X0.here hx rfl (hb hby at_1) ?_
      show Steps p.tables e below (s₁.setTop (mkF m 2 #[.val (.int p1), .unset, .unset, .unset, .unset, .unset, .unset, .unset, .unset, .unset, .unset] [(.int (1 : Int32)), (.int p1)])) t
      refine XS.iand X0.here hx rfl (hb hby at_2) rfl ?_
      exact k)
  by_cases hc3 : (p1 &&& (1 : Int32)) = (0 : Int32)
  · have pre2 : Go p e below s₁ (mkF m 10 #[.val (.int p1), .unset, .unset, .unset, .unset, .unset, .unset, .unset, .unset, .unset, .unset] []) s₁ (entryFrame m #[(.int p1)] maxLocals) := fun t k => pre1 t (XS.ifYes X0.here hx rfl (pc0 := 3) (pc' := 10) rfl (hb hby at_3) rfl ((if0 _ _).trans (teq hc3).1) (by decide) (by decide) k)
    have pre3 : Go p e below s₁ (mkF m 15 #[.val (.int p1), .val (.int (0 : Int32)), .unset, .unset, .unset, .unset, .unset, .unset, .unset, .unset, .unset] [(.int (p1 &&& (2 : Int32)))]) s₁ (entryFrame m #[(.int p1)] maxLocals) := fun t k => pre2 t (by
        show Steps p.tables e below (s₁.setTop (mkF m 10 #[.val (.int p1), .unset, .unset, .unset, .unset, .unset, .unset, .unset, .unset, .unset, .unset] [])) t
        refine XS.iconst X0.here hx rfl (hb hby at_10) ?_
        show Steps p.tables e below (s₁.setTop (mkF m 11 #[.val (.int p1), .unset, .unset, .unset, .unset, .unset, .unset, .unset, .unset, .unset, .unset] [(.int (0 : Int32))])) t
        refine XS.istoreN X0.here hx rfl (hb hby at_11) rfl (l' := #[.val (.int p1), .val (.int (0 : Int32)), .unset, .unset, .unset, .unset, .unset, .unset, .unset, .unset, .unset]) rfl ?_
        show Steps p.tables e below (s₁.setTop (mkF m 12 #[.val (.int p1), .val (.int (0 : Int32)), .unset, .unset, .unset, .unset, .unset, .unset, .unset, .unset, .unset] [])) t
        refine XS.iloadN X0.here hx rfl (hb hby at_12) rfl ?_
        show Steps p.tables e below (s₁.setTop (mkF m 13 #[.val (.int p1), .val (.int (0 : Int32)), .unset, .unset, .unset, .unset, .unset, .unset, .unset, .unset, .unset] [(.int p1)])) t
        refine XS.iconst X0.here hx rfl (hb hby at_13) ?_
        show Steps p.tables e below (s₁.setTop (mkF m 14 #[.val (.int p1), .val (.int (0 : Int32)), .unset, .unset, .unset, .unset, .unset, .unset, .unset, .unset, .unset] [(.int (2 : Int32)), (.int p1)])) t
        refine XS.iand X0.here hx rfl (hb hby at_14) rfl ?_
        exact k)
    by_cases hc15 : (p1 &&& (2 : Int32)) = (0 : Int32)
    · have pre4 : Go p e below s₁ (mkF m 22 #[.val (.int p1), .val (.int (0 : Int32)), .unset, .unset, .unset, .unset, .unset, .unset, .unset, .unset, .unset] []) s₁ (entryFrame m #[(.int p1)] maxLocals) := fun t k => pre3 t (XS.ifYes X0.here hx rfl (pc0 := 15) (pc' := 22) rfl (hb hby at_15) rfl ((if0 _ _).trans (teq hc15).1) (by decide) (by decide) k)
      have pre5 : Go p e below s₁ (mkF m 27 #[.val (.int p1), .val (.int (0 : Int32)), .val (.int (0 : Int32)), .unset, .unset, .unset, .unset, .unset, .unset, .unset, .unset] [(.int (p1 &&& (4 : Int32)))]) s₁ (entryFrame m #[(.int p1)] maxLocals) := fun t k => pre4 t (by
          show Steps p.tables e below (s₁.setTop (mkF m 22 #[.val (.int p1), .val (.int (0 : Int32)), .unset, .unset, .unset, .unset, .unset, .unset, .unset, .unset, .unset] [])) t
          refine XS.iconst X0.here hx rfl (hb hby at_22) ?_
          show Steps p.tables e below (s₁.setTop (mkF m 23 #[.val (.int p1), .val (.int (0 : Int32)), .unset, .unset, .unset, .unset, .unset, .unset, .unset, .unset, .unset] [(.int (0 : Int32))])) t
          refine XS.istoreN X0.here hx rfl (hb hby at_23) rfl (l' := #[.val (.int p1), .val (.int (0 : Int32)), .val (.int (0 : Int32)), .unset, .unset, .unset, .unset, .unset, .unset, .unset, .unset]) rfl ?_
          show Steps p.tables e below (s₁.setTop (mkF m 24 #[.val (.int p1), .val (.int (0 : Int32)), .val (.int (0 : Int32)), .unset, .unset, .unset, .unset, .unset, .unset, .unset, .unset] [])) t
          refine XS.iloadN X0.here hx rfl (hb hby at_24) rfl ?_
          show Steps p.tables e below (s₁.setTop (mkF m 25 #[.val (.int p1), .val (.int (0 : Int32)), .val (.int (0 : Int32)), .unset, .unset, .unset, .unset, .unset, .unset, .unset, .unset] [(.int p1)])) t
          refine XS.iconst X0.here hx rfl (hb hby at_25) ?_
          show Steps p.tables e below (s₁.setTop (mkF m 26 #[.val (.int p1), .val (.int (0 : Int32)), .val (.int (0 : Int32)), .unset, .unset, .unset, .unset, .unset, .unset, .unset, .unset] [(.int (4 : Int32)), (.int p1)])) t
          refine XS.iand X0.here hx rfl (hb hby at_26) rfl ?_
          exact k)
      by_cases hc27 : (p1 &&& (4 : Int32)) = (0 : Int32)
      · have pre6 : Go p e below s₁ (mkF m 38 #[.val (.int p1), .val (.int (0 : Int32)), .val (.int (0 : Int32)), .unset, .unset, .unset, .unset, .unset, .unset, .unset, .unset] []) s₁ (entryFrame m #[(.int p1)] maxLocals) := fun t k => pre5 t (XS.ifYes X0.here hx rfl (pc0 := 27) (pc' := 38) rfl (hb hby at_27) rfl ((if0 _ _).trans (teq hc27).1) (by decide) (by decide) k)
        have pre7 : Go p e below s₁ (mkF m 44 #[.val (.int p1), .val (.int (0 : Int32)), .val (.int (0 : Int32)), .val (.int (0 : Int32)), .unset, .unset, .unset, .unset, .unset, .unset, .unset] [(.int (p1 &&& (8 : Int32)))]) s₁ (entryFrame m #[(.int p1)] maxLocals) := fun t k => pre6 t (by
            show Steps p.tables e below (s₁.setTop (mkF m 38 #[.val (.int p1), .val (.int (0 : Int32)), .val (.int (0 : Int32)), .unset, .unset, .unset, .unset, .unset, .unset, .unset, .unset] [])) t
            refine XS.iconst X0.here hx rfl (hb hby at_38) ?_
            show Steps p.tables e below (s₁.setTop (mkF m 39 #[.val (.int p1), .val (.int (0 : Int32)), .val (.int (0 : Int32)), .unset, .unset, .unset, .unset, .unset, .unset, .unset, .unset] [(.int (0 : Int32))])) t
            refine XS.istoreN X0.here hx rfl (hb hby at_39) rfl (l' := #[.val (.int p1), .val (.int (0 : Int32)), .val (.int (0 : Int32)), .val (.int (0 : Int32)), .unset, .unset, .unset, .unset, .unset, .unset, .unset]) rfl ?_
            show Steps p.tables e below (s₁.setTop (mkF m 40 #[.val (.int p1), .val (.int (0 : Int32)), .val (.int (0 : Int32)), .val (.int (0 : Int32)), .unset, .unset, .unset, .unset, .unset, .unset, .unset] [])) t
            refine XS.iloadN X0.here hx rfl (hb hby at_40) rfl ?_
            show Steps p.tables e below (s₁.setTop (mkF m 41 #[.val (.int p1), .val (.int (0 : Int32)), .val (.int (0 : Int32)), .val (.int (0 : Int32)), .unset, .unset, .unset, .unset, .unset, .unset, .unset] [(.int p1)])) t
            refine XS.bipush X0.here hx rfl (hb hby at_41) ?_
            show Steps p.tables e below (s₁.setTop (mkF m 43 #[.val (.int p1), .val (.int (0 : Int32)), .val (.int (0 : Int32)), .val (.int (0 : Int32)), .unset, .unset, .unset, .unset, .unset, .unset, .unset] [(.int (8 : Int32)), (.int p1)])) t
            refine XS.iand X0.here hx rfl (hb hby at_43) rfl ?_
            exact k)
        by_cases hc44 : (p1 &&& (8 : Int32)) = (0 : Int32)
        · have pre8 : Go p e below s₁ (mkF m 55 #[.val (.int p1), .val (.int (0 : Int32)), .val (.int (0 : Int32)), .val (.int (0 : Int32)), .unset, .unset, .unset, .unset, .unset, .unset, .unset] []) s₁ (entryFrame m #[(.int p1)] maxLocals) := fun t k => pre7 t (XS.ifYes X0.here hx rfl (pc0 := 44) (pc' := 55) rfl (hb hby at_44) rfl ((if0 _ _).trans (teq hc44).1) (by decide) (by decide) k)
          have pre9 : Go p e below s₁ (mkF m 58 #[.val (.int p1), .val (.int (0 : Int32)), .val (.int (0 : Int32)), .val (.int (0 : Int32)), .val (.int (0 : Int32)), .unset, .unset, .unset, .unset, .unset, .unset] []) s₁ (entryFrame m #[(.int p1)] maxLocals) := fun t k => pre8 t (by
              show Steps p.tables e below (s₁.setTop (mkF m 55 #[.val (.int p1), .val (.int (0 : Int32)), .val (.int (0 : Int32)), .val (.int (0 : Int32)), .unset, .unset, .unset, .unset, .unset, .unset, .unset] [])) t
              refine XS.iconst X0.here hx rfl (hb hby at_55) ?_
              show Steps p.tables e below (s₁.setTop (mkF m 56 #[.val (.int p1), .val (.int (0 : Int32)), .val (.int (0 : Int32)), .val (.int (0 : Int32)), .unset, .unset, .unset, .unset, .unset, .unset, .unset] [(.int (0 : Int32))])) t
              refine XS.istore X0.here hx rfl (hb hby at_56) rfl (l' := #[.val (.int p1), .val (.int (0 : Int32)), .val (.int (0 : Int32)), .val (.int (0 : Int32)), .val (.int (0 : Int32)), .unset, .unset, .unset, .unset, .unset, .unset]) rfl ?_
              exact k)
          obtain ⟨T10, h10, X10, e10, E10, A10, D10, U10, st10⟩ := newO X0 hx hZ hown (hw _ (List.mem_of_getElem? (i := 0) rfl)) (hw _ (List.mem_of_getElem? (i := 1) rfl)) (hw _ (List.mem_of_getElem? (i := 2) rfl)) e0 (g := (mkF m 58 #[.val (.int p1), .val (.int (0 : Int32)), .val (.int (0 : Int32)), .val (.int (0 : Int32)), .val (.int (0 : Int32)), .unset, .unset, .unset, .unset, .unset, .unset] [])) rfl (hb hby at_58) (by decide) (by decide)
          obtain ⟨b10, g10⟩ : ∃ z, z = h0.size := ⟨_, rfl⟩
          rw [← g10] at A10 st10 D10
          have g_b10 : n0 ≤ b10 := Nat.le_trans Z0 (Nat.le_of_eq g10.symm)
          have pre11 : Go p e below T10 (mkF m 61 #[.val (.int p1), .val (.int (0 : Int32)), .val (.int (0 : Int32)), .val (.int (0 : Int32)), .val (.int (0 : Int32)), .unset, .unset, .unset, .unset, .unset, .unset] [(.ref b10)]) s₁ (entryFrame m #[(.int p1)] maxLocals) := fun t k => pre9 t (st10 t k)
          have O12 : Old Z n0 h10 := O0.ext E10
          have Z12 : n0 ≤ h10.size := Nat.le_trans Z0 E10.1
          have F_seesLeft_b10 : Fld Z h10 b10 "com/example/picketline/picketline/protocol/Surroundings" "seesLeft" "Z" (.int (0 : Int32)) := D10 (Or.inr (hw _ (List.mem_of_getElem? (i := 15) rfl))) (ty := .boolean) (by decide)
          have F_seesRight_b10 : Fld Z h10 b10 "com/example/picketline/picketline/protocol/Surroundings" "seesRight" "Z" (.int (0 : Int32)) := D10 (Or.inr (hw _ (List.mem_of_getElem? (i := 17) rfl))) (ty := .boolean) (by decide)
          have F_gapLeft_b10 : Fld Z h10 b10 "com/example/picketline/picketline/protocol/Surroundings" "gapLeft" "Z" (.int (0 : Int32)) := D10 (Or.inr (hw _ (List.mem_of_getElem? (i := 19) rfl))) (ty := .boolean) (by decide)
          have F_gapRight_b10 : Fld Z h10 b10 "com/example/picketline/picketline/protocol/Surroundings" "gapRight" "Z" (.int (0 : Int32)) := D10 (Or.inr (hw _ (List.mem_of_getElem? (i := 21) rfl))) (ty := .boolean) (by decide)
          have pre13 : Go p e below T10 (mkF m 67 #[.val (.int p1), .val (.int (0 : Int32)), .val (.int (0 : Int32)), .val (.int (0 : Int32)), .val (.int (0 : Int32)), .unset, .unset, .unset, .unset, .unset, .unset] [(.int (0 : Int32)), (.int (0 : Int32)), (.int (0 : Int32)), (.int (0 : Int32)), (.ref b10), (.ref b10)]) s₁ (entryFrame m #[(.int p1)] maxLocals) := fun t k => pre11 t (by
              show Steps p.tables e below (T10.setTop (mkF m 61 #[.val (.int p1), .val (.int (0 : Int32)), .val (.int (0 : Int32)), .val (.int (0 : Int32)), .val (.int (0 : Int32)), .unset, .unset, .unset, .unset, .unset, .unset] [(.ref b10)])) t
              refine XS.dup X10.here hx rfl (hb hby at_61) rfl rfl ?_
              show Steps p.tables e below (T10.setTop (mkF m 62 #[.val (.int p1), .val (.int (0 : Int32)), .val (.int (0 : Int32)), .val (.int (0 : Int32)), .val (.int (0 : Int32)), .unset, .unset, .unset, .unset, .unset, .unset] [(.ref b10), (.ref b10)])) t
              refine XS.iloadN X10.here hx rfl (hb hby at_62) rfl ?_
              show Steps p.tables e below (T10.setTop (mkF m 63 #[.val (.int p1), .val (.int (0 : Int32)), .val (.int (0 : Int32)), .val (.int (0 : Int32)), .val (.int (0 : Int32)), .unset, .unset, .unset, .unset, .unset, .unset] [(.int (0 : Int32)), (.ref b10), (.ref b10)])) t
              refine XS.iloadN X10.here hx rfl (hb hby at_63) rfl ?_
              show Steps p.tables e below (T10.setTop (mkF m 64 #[.val (.int p1), .val (.int (0 : Int32)), .val (.int (0 : Int32)), .val (.int (0 : Int32)), .val (.int (0 : Int32)), .unset, .unset, .unset, .unset, .unset, .unset] [(.int (0 : Int32)), (.int (0 : Int32)), (.ref b10), (.ref b10)])) t
              refine XS.iloadN X10.here hx rfl (hb hby at_64) rfl ?_
              show Steps p.tables e below (T10.setTop (mkF m 65 #[.val (.int p1), .val (.int (0 : Int32)), .val (.int (0 : Int32)), .val (.int (0 : Int32)), .val (.int (0 : Int32)), .unset, .unset, .unset, .unset, .unset, .unset] [(.int (0 : Int32)), (.int (0 : Int32)), (.int (0 : Int32)), (.ref b10), (.ref b10)])) t
              refine XS.iload X10.here hx rfl (hb hby at_65) rfl ?_
              exact k)
          obtain ⟨_, _, ⟨T14, L14, k14, n14⟩, -, X14, ⟨Lc14, hQ14, l14, y14, z14⟩, st14⟩ := X10.specialBack hx (y := (⟨"com/example/picketline/picketline/protocol/Surroundings", "<init>", "(ZZZZ)V"⟩ : MethodName)) rfl hown (mvT hZ (hw _ (List.mem_of_getElem? (i := 3) rfl))) (mvT hZ (hw _ (List.mem_of_getElem? (i := 4) rfl))) (mvT hZ (hw _ (List.mem_of_getElem? (i := 5) rfl))) (by decide) (backOf (W := 1) (rmC l Z a0 hw [] b10 (0 : Int32) (0 : Int32) (0 : Int32) (0 : Int32) h10 n0 Z12 A10 g_b10 F_seesLeft_b10 F_seesRight_b10 F_gapLeft_b10 F_gapRight_b10 rfl rfl rfl rfl rfl rfl rfl rfl) hZ (hw _ (List.mem_of_getElem? (i := 5) rfl)) (hw _ (List.mem_of_getElem? (i := 2) rfl)) (by decide) (by decide)) (g := (mkF m 67 #[.val (.int p1), .val (.int (0 : Int32)), .val (.int (0 : Int32)), .val (.int (0 : Int32)), .val (.int (0 : Int32)), .unset, .unset, .unset, .unset, .unset, .unset] [(.int (0 : Int32)), (.int (0 : Int32)), (.int (0 : Int32)), (.int (0 : Int32)), (.ref b10), (.ref b10)])) rfl (by rw [hml]; rfl) (Steps.refl _) (a := b10) (argsL := [(.int (0 : Int32)), (.int (0 : Int32)), (.int (0 : Int32)), (.int (0 : Int32))]) (rest := [(.ref b10)]) (lenOf pdL_0 rfl) rfl (by show 2 * 0 + _ ≤ _; exact Nat.le_of_eq rfl) (hb hby at_67) (fun _ _ => ⟨rfl, e10, (by decide : 1 + 0 ≤ _), (by decide : 4 + 0 ≤ _)⟩)
          dsimp only [Pt.U, Pt.locs, Pt.cells, Pt.slots] at X14 l14 y14 z14 st14 hQ14
          subst l14 y14 z14
          obtain ⟨rfl, N14q, K14, EX14, G0_14, G1_14, G2_14, G3_14⟩ := hQ14
          have N14 := Fr.app N0 N14q
          have pre15 : Go p e below T14 (mkF m 70 #[.val (.int p1), .val (.int (0 : Int32)), .val (.int (0 : Int32)), .val (.int (0 : Int32)), .val (.int (0 : Int32)), .unset, .unset, .unset, .unset, .unset, .unset] [(.ref b10)]) s₁ (entryFrame m #[(.int p1)] maxLocals) := fun t k => pre13 t (st14.trans k)
          have O16 : Old Z n0 T14.heap := O12.keep K14 (allS g_b10 all0)
          have Z16 : n0 ≤ T14.heap.size := Nat.le_trans Z12 K14.1
          have pre17 : Go p e below T14 (mkF m 74 #[.val (.int p1), .val (.int (0 : Int32)), .val (.int (0 : Int32)), .val (.int (0 : Int32)), .val (.int (0 : Int32)), .val (.ref b10), .unset, .unset, .unset, .unset, .unset] [(.ref b10)]) s₁ (entryFrame m #[(.int p1)] maxLocals) := fun t k => pre15 t (by
              show Steps p.tables e below (T14.setTop (mkF m 70 #[.val (.int p1), .val (.int (0 : Int32)), .val (.int (0 : Int32)), .val (.int (0 : Int32)), .val (.int (0 : Int32)), .unset, .unset, .unset, .unset, .unset, .unset] [(.ref b10)])) t
              refine XS.astore X14.here hx rfl (hb hby at_70) rfl rfl (l' := #[.val (.int p1), .val (.int (0 : Int32)), .val (.int (0 : Int32)), .val (.int (0 : Int32)), .val (.int (0 : Int32)), .val (.ref b10), .unset, .unset, .unset, .unset, .unset]) rfl ?_
              show Steps p.tables e below (T14.setTop (mkF m 72 #[.val (.int p1), .val (.int (0 : Int32)), .val (.int (0 : Int32)), .val (.int (0 : Int32)), .val (.int (0 : Int32)), .val (.ref b10), .unset, .unset, .unset, .unset, .unset] [])) t
              refine XS.aload X14.here hx rfl (hb hby at_72) rfl rfl ?_
              exact k)
          obtain ⟨cq18, kq18, q18a, q18b, q18c⟩ := isOf hZ rfl EX14
          obtain ⟨_, _, ⟨T18, L18, k18, n18⟩, -, X18, ⟨Lc18, hQ18, l18, y18, z18⟩, st18⟩ := X14.virtualBack hx (y := (⟨"com/example/picketline/picketline/protocol/Surroundings", "towardGap", "()Lcom/example/picketline/picketline/protocol/Heading;"⟩ : MethodName)) (z := (⟨"com/example/picketline/picketline/protocol/Surroundings", "towardGap", "()Lcom/example/picketline/picketline/protocol/Heading;"⟩ : MethodName)) hown (mvT hZ (hw _ (List.mem_of_getElem? (i := 22) rfl))) (mvT hZ (hw _ (List.mem_of_getElem? (i := 23) rfl))) (notFace_of_selects (args := #[]) (mvT hZ (hw _ (List.mem_of_getElem? (i := 25) rfl)))) (mvT hZ (hw _ (List.mem_of_getElem? (i := 25) rfl))) (mvT hZ (hw _ (List.mem_of_getElem? (i := 24) rfl))) (by decide) (backOf (W := 0) (rmT l Z a0 hw [] b10 (0 : Int32) (0 : Int32) (0 : Int32) (0 : Int32) w0 w1 w2 w0 T14.heap n0 Z16 G0_14 G1_14 G2_14 G3_14 (S0.ext O16.2) (S1.ext O16.2) (S2.ext O16.2) (by simp [towF])) hZ (hw _ (List.mem_of_getElem? (i := 26) rfl)) (hw _ (List.mem_of_getElem? (i := 2) rfl)) (by decide) (by decide)) q18a q18c (g := (mkF m 74 #[.val (.int p1), .val (.int (0 : Int32)), .val (.int (0 : Int32)), .val (.int (0 : Int32)), .val (.int (0 : Int32)), .val (.ref b10), .unset, .unset, .unset, .unset, .unset] [(.ref b10)])) rfl (by rw [hml]; rfl) (Steps.refl _) (argsL := []) (rest := []) (lenOf pdL_1 rfl) rfl (by show 2 * 0 + _ ≤ _; exact Nat.le_of_eq rfl) (hb hby at_74) (fun _ _ => ⟨rfl, rfl, (by decide : 1 + 0 ≤ _), (by decide : 4 + 0 ≤ _)⟩)
          dsimp only [Pt.U, Pt.locs, Pt.cells, Pt.slots] at X18 l18 y18 z18 st18 hQ18
          subst l18 y18 z18
          obtain ⟨rfl, N18q, hq18⟩ := hQ18
          have N18 := Fr.app N14 N18q
          have pre19 : Go p e below T18 (mkF m 77 #[.val (.int p1), .val (.int (0 : Int32)), .val (.int (0 : Int32)), .val (.int (0 : Int32)), .val (.int (0 : Int32)), .val (.ref b10), .unset, .unset, .unset, .unset, .unset] [(.ref w0)]) s₁ (entryFrame m #[(.int p1)] maxLocals) := fun t k => pre17 t (st18.trans k)
          have e18 : T18.heap = T14.heap := hq18
          have pre20 : Go p e below T18 (mkF m 80 #[.val (.int p1), .val (.int (0 : Int32)), .val (.int (0 : Int32)), .val (.int (0 : Int32)), .val (.int (0 : Int32)), .val (.ref b10), .val (.ref w0), .unset, .unset, .unset, .unset] [(.int (0 : Int32))]) s₁ (entryFrame m #[(.int p1)] maxLocals) := fun t k => pre19 t (by
              show Steps p.tables e below (T18.setTop (mkF m 77 #[.val (.int p1), .val (.int (0 : Int32)), .val (.int (0 : Int32)), .val (.int (0 : Int32)), .val (.int (0 : Int32)), .val (.ref b10), .unset, .unset, .unset, .unset, .unset] [(.ref w0)])) t
              refine XS.astore X18.here hx rfl (hb hby at_77) rfl rfl (l' := #[.val (.int p1), .val (.int (0 : Int32)), .val (.int (0 : Int32)), .val (.int (0 : Int32)), .val (.int (0 : Int32)), .val (.ref b10), .val (.ref w0), .unset, .unset, .unset, .unset]) rfl ?_
              show Steps p.tables e below (T18.setTop (mkF m 79 #[.val (.int p1), .val (.int (0 : Int32)), .val (.int (0 : Int32)), .val (.int (0 : Int32)), .val (.int (0 : Int32)), .val (.ref b10), .val (.ref w0), .unset, .unset, .unset, .unset] [])) t
              refine XS.iloadN X18.here hx rfl (hb hby at_79) rfl ?_
              exact k)
          have pre21 : Go p e below T18 (mkF m 92 #[.val (.int p1), .val (.int (0 : Int32)), .val (.int (0 : Int32)), .val (.int (0 : Int32)), .val (.int (0 : Int32)), .val (.ref b10), .val (.ref w0), .unset, .unset, .unset, .unset] []) s₁ (entryFrame m #[(.int p1)] maxLocals) := fun t k => pre20 t (XS.ifYes X18.here hx rfl (pc0 := 80) (pc' := 92) rfl (hb hby at_80) rfl ((if0 _ _).trans (teq (by decide : (0 : Int32) = (0 : Int32))).1) (by decide) (by decide) k)
          have pre22 : Go p e below T18 (mkF m 96 #[.val (.int p1), .val (.int (0 : Int32)), .val (.int (0 : Int32)), .val (.int (0 : Int32)), .val (.int (0 : Int32)), .val (.ref b10), .val (.ref w0), .val (.int (0 : Int32)), .unset, .unset, .unset] [(.int (0 : Int32))]) s₁ (entryFrame m #[(.int p1)] maxLocals) := fun t k => pre21 t (by
              show Steps p.tables e below (T18.setTop (mkF m 92 #[.val (.int p1), .val (.int (0 : Int32)), .val (.int (0 : Int32)), .val (.int (0 : Int32)), .val (.int (0 : Int32)), .val (.ref b10), .val (.ref w0), .unset, .unset, .unset, .unset] [])) t
              refine XS.iconst X18.here hx rfl (hb hby at_92) ?_
              show Steps p.tables e below (T18.setTop (mkF m 93 #[.val (.int p1), .val (.int (0 : Int32)), .val (.int (0 : Int32)), .val (.int (0 : Int32)), .val (.int (0 : Int32)), .val (.ref b10), .val (.ref w0), .unset, .unset, .unset, .unset] [(.int (0 : Int32))])) t
              refine XS.istore X18.here hx rfl (hb hby at_93) rfl (l' := #[.val (.int p1), .val (.int (0 : Int32)), .val (.int (0 : Int32)), .val (.int (0 : Int32)), .val (.int (0 : Int32)), .val (.ref b10), .val (.ref w0), .val (.int (0 : Int32)), .unset, .unset, .unset]) rfl ?_
              show Steps p.tables e below (T18.setTop (mkF m 95 #[.val (.int p1), .val (.int (0 : Int32)), .val (.int (0 : Int32)), .val (.int (0 : Int32)), .val (.int (0 : Int32)), .val (.ref b10), .val (.ref w0), .val (.int (0 : Int32)), .unset, .unset, .unset] [])) t
              refine XS.iloadN X18.here hx rfl (hb hby at_95) rfl ?_
              exact k)
          have pre23 : Go p e below T18 (mkF m 107 #[.val (.int p1), .val (.int (0 : Int32)), .val (.int (0 : Int32)), .val (.int (0 : Int32)), .val (.int (0 : Int32)), .val (.ref b10), .val (.ref w0), .val (.int (0 : Int32)), .unset, .unset, .unset] []) s₁ (entryFrame m #[(.int p1)] maxLocals) := fun t k => pre22 t (XS.ifYes X18.here hx rfl (pc0 := 96) (pc' := 107) rfl (hb hby at_96) rfl ((if0 _ _).trans (teq (by decide : (0 : Int32) = (0 : Int32))).1) (by decide) (by decide) k)
          have pre24 : Go p e below T18 (mkF m 119 #[.val (.int p1), .val (.int (0 : Int32)), .val (.int (0 : Int32)), .val (.int (0 : Int32)), .val (.int (0 : Int32)), .val (.ref b10), .val (.ref w0), .val (.int (0 : Int32)), .val (.int (0 : Int32)), .val (.int (0 : Int32)), .unset] [(.int (0 : Int32))]) s₁ (entryFrame m #[(.int p1)] maxLocals) := fun t k => pre23 t (by
              show Steps p.tables e below (T18.setTop (mkF m 107 #[.val (.int p1), .val (.int (0 : Int32)), .val (.int (0 : Int32)), .val (.int (0 : Int32)), .val (.int (0 : Int32)), .val (.ref b10), .val (.ref w0), .val (.int (0 : Int32)), .unset, .unset, .unset] [])) t
              refine XS.iconst X18.here hx rfl (hb hby at_107) ?_
              show Steps p.tables e below (T18.setTop (mkF m 108 #[.val (.int p1), .val (.int (0 : Int32)), .val (.int (0 : Int32)), .val (.int (0 : Int32)), .val (.int (0 : Int32)), .val (.ref b10), .val (.ref w0), .val (.int (0 : Int32)), .unset, .unset, .unset] [(.int (0 : Int32))])) t
              refine XS.istore X18.here hx rfl (hb hby at_108) rfl (l' := #[.val (.int p1), .val (.int (0 : Int32)), .val (.int (0 : Int32)), .val (.int (0 : Int32)), .val (.int (0 : Int32)), .val (.ref b10), .val (.ref w0), .val (.int (0 : Int32)), .val (.int (0 : Int32)), .unset, .unset]) rfl ?_
              show Steps p.tables e below (T18.setTop (mkF m 110 #[.val (.int p1), .val (.int (0 : Int32)), .val (.int (0 : Int32)), .val (.int (0 : Int32)), .val (.int (0 : Int32)), .val (.ref b10), .val (.ref w0), .val (.int (0 : Int32)), .val (.int (0 : Int32)), .unset, .unset] [])) t
              refine XS.iload X18.here hx rfl (hb hby at_110) rfl ?_
              show Steps p.tables e below (T18.setTop (mkF m 112 #[.val (.int p1), .val (.int (0 : Int32)), .val (.int (0 : Int32)), .val (.int (0 : Int32)), .val (.int (0 : Int32)), .val (.ref b10), .val (.ref w0), .val (.int (0 : Int32)), .val (.int (0 : Int32)), .unset, .unset] [(.int (0 : Int32))])) t
              refine XS.iload X18.here hx rfl (hb hby at_112) rfl ?_
              show Steps p.tables e below (T18.setTop (mkF m 114 #[.val (.int p1), .val (.int (0 : Int32)), .val (.int (0 : Int32)), .val (.int (0 : Int32)), .val (.int (0 : Int32)), .val (.ref b10), .val (.ref w0), .val (.int (0 : Int32)), .val (.int (0 : Int32)), .unset, .unset] [(.int (0 : Int32)), (.int (0 : Int32))])) t
              refine XS.isub X18.here hx rfl (hb hby at_114) rfl ?_
              show Steps p.tables e below (T18.setTop (mkF m 115 #[.val (.int p1), .val (.int (0 : Int32)), .val (.int (0 : Int32)), .val (.int (0 : Int32)), .val (.int (0 : Int32)), .val (.ref b10), .val (.ref w0), .val (.int (0 : Int32)), .val (.int (0 : Int32)), .unset, .unset] [(.int (0 : Int32))])) t
              refine XS.istore X18.here hx rfl (hb hby at_115) rfl (l' := #[.val (.int p1), .val (.int (0 : Int32)), .val (.int (0 : Int32)), .val (.int (0 : Int32)), .val (.int (0 : Int32)), .val (.ref b10), .val (.ref w0), .val (.int (0 : Int32)), .val (.int (0 : Int32)), .val (.int (0 : Int32)), .unset]) rfl ?_
              show Steps p.tables e below (T18.setTop (mkF m 117 #[.val (.int p1), .val (.int (0 : Int32)), .val (.int (0 : Int32)), .val (.int (0 : Int32)), .val (.int (0 : Int32)), .val (.ref b10), .val (.ref w0), .val (.int (0 : Int32)), .val (.int (0 : Int32)), .val (.int (0 : Int32)), .unset] [])) t
              refine XS.iload X18.here hx rfl (hb hby at_117) rfl ?_
              exact k)
          have pre25 : Go p e below T18 (mkF m 130 #[.val (.int p1), .val (.int (0 : Int32)), .val (.int (0 : Int32)), .val (.int (0 : Int32)), .val (.int (0 : Int32)), .val (.ref b10), .val (.ref w0), .val (.int (0 : Int32)), .val (.int (0 : Int32)), .val (.int (0 : Int32)), .unset] []) s₁ (entryFrame m #[(.int p1)] maxLocals) := fun t k => pre24 t (XS.ifYes X18.here hx rfl (pc0 := 119) (pc' := 130) rfl (hb hby at_119) rfl ((if0 _ _).trans (flt (by decide : ¬ ((0 : Int32) < (0 : Int32)))).2.2.2) (by decide) (by decide) k)
          have pre26 : Go p e below T18 (mkF m 132 #[.val (.int p1), .val (.int (0 : Int32)), .val (.int (0 : Int32)), .val (.int (0 : Int32)), .val (.int (0 : Int32)), .val (.ref b10), .val (.ref w0), .val (.int (0 : Int32)), .val (.int (0 : Int32)), .val (.int (0 : Int32)), .unset] [(.int (0 : Int32))]) s₁ (entryFrame m #[(.int p1)] maxLocals) := fun t k => pre25 t (by
              show Steps p.tables e below (T18.setTop (mkF m 130 #[.val (.int p1), .val (.int (0 : Int32)), .val (.int (0 : Int32)), .val (.int (0 : Int32)), .val (.int (0 : Int32)), .val (.ref b10), .val (.ref w0), .val (.int (0 : Int32)), .val (.int (0 : Int32)), .val (.int (0 : Int32)), .unset] [])) t
              refine XS.iload X18.here hx rfl (hb hby at_130) rfl ?_
              exact k)
          have pre27 : Go p e below T18 (mkF m 143 #[.val (.int p1), .val (.int (0 : Int32)), .val (.int (0 : Int32)), .val (.int (0 : Int32)), .val (.int (0 : Int32)), .val (.ref b10), .val (.ref w0), .val (.int (0 : Int32)), .val (.int (0 : Int32)), .val (.int (0 : Int32)), .unset] []) s₁ (entryFrame m #[(.int p1)] maxLocals) := fun t k => pre26 t (XS.ifYes X18.here hx rfl (pc0 := 132) (pc' := 143) rfl (hb hby at_132) rfl ((if0 _ _).trans (flt (by decide : ¬ ((0 : Int32) < (0 : Int32)))).2.1) (by decide) (by decide) k)
          obtain ⟨T28, X28, e28, st28⟩ := getS2 X18 hx hZ hown (host := "") (Or.inl (hw _ (List.mem_of_getElem? (i := 30) rfl))) Via.refl e18 (S0.ext O16.2) (g := (mkF m 143 #[.val (.int p1), .val (.int (0 : Int32)), .val (.int (0 : Int32)), .val (.int (0 : Int32)), .val (.int (0 : Int32)), .val (.ref b10), .val (.ref w0), .val (.int (0 : Int32)), .val (.int (0 : Int32)), .val (.int (0 : Int32)), .unset] [])) rfl (hb hby at_143)
          have pre29 : Go p e below T28 (mkF m 146 #[.val (.int p1), .val (.int (0 : Int32)), .val (.int (0 : Int32)), .val (.int (0 : Int32)), .val (.int (0 : Int32)), .val (.ref b10), .val (.ref w0), .val (.int (0 : Int32)), .val (.int (0 : Int32)), .val (.int (0 : Int32)), .unset] [(.ref w0)]) s₁ (entryFrame m #[(.int p1)] maxLocals) := fun t k => pre27 t (st28 t k)
          have pre30 : Go p e below T28 (mkF m 152 #[.val (.int p1), .val (.int (0 : Int32)), .val (.int (0 : Int32)), .val (.int (0 : Int32)), .val (.int (0 : Int32)), .val (.ref b10), .val (.ref w0), .val (.int (0 : Int32)), .val (.int (0 : Int32)), .val (.int (0 : Int32)), .val (.ref w0)] [(.ref w0), (.ref w0)]) s₁ (entryFrame m #[(.int p1)] maxLocals) := fun t k => pre29 t (by
              show Steps p.tables e below (T28.setTop (mkF m 146 #[.val (.int p1), .val (.int (0 : Int32)), .val (.int (0 : Int32)), .val (.int (0 : Int32)), .val (.int (0 : Int32)), .val (.ref b10), .val (.ref w0), .val (.int (0 : Int32)), .val (.int (0 : Int32)), .val (.int (0 : Int32)), .unset] [(.ref w0)])) t
              refine XS.astore X28.here hx rfl (hb hby at_146) rfl rfl (l' := #[.val (.int p1), .val (.int (0 : Int32)), .val (.int (0 : Int32)), .val (.int (0 : Int32)), .val (.int (0 : Int32)), .val (.ref b10), .val (.ref w0), .val (.int (0 : Int32)), .val (.int (0 : Int32)), .val (.int (0 : Int32)), .val (.ref w0)]) rfl ?_
              show Steps p.tables e below (T28.setTop (mkF m 148 #[.val (.int p1), .val (.int (0 : Int32)), .val (.int (0 : Int32)), .val (.int (0 : Int32)), .val (.int (0 : Int32)), .val (.ref b10), .val (.ref w0), .val (.int (0 : Int32)), .val (.int (0 : Int32)), .val (.int (0 : Int32)), .val (.ref w0)] [])) t
              refine XS.aload X28.here hx rfl (hb hby at_148) rfl rfl ?_
              show Steps p.tables e below (T28.setTop (mkF m 150 #[.val (.int p1), .val (.int (0 : Int32)), .val (.int (0 : Int32)), .val (.int (0 : Int32)), .val (.int (0 : Int32)), .val (.ref b10), .val (.ref w0), .val (.int (0 : Int32)), .val (.int (0 : Int32)), .val (.int (0 : Int32)), .val (.ref w0)] [(.ref w0)])) t
              refine XS.aload X28.here hx rfl (hb hby at_150) rfl rfl ?_
              exact k)
          have pre31 : Go p e below T28 (mkF m 155 #[.val (.int p1), .val (.int (0 : Int32)), .val (.int (0 : Int32)), .val (.int (0 : Int32)), .val (.int (0 : Int32)), .val (.ref b10), .val (.ref w0), .val (.int (0 : Int32)), .val (.int (0 : Int32)), .val (.int (0 : Int32)), .val (.ref w0)] []) s₁ (entryFrame m #[(.int p1)] maxLocals) := fun t k => pre30 t (Jvm.RoadKit.acmp (g := (mkF m 152 #[.val (.int p1), .val (.int (0 : Int32)), .val (.int (0 : Int32)), .val (.int (0 : Int32)), .val (.int (0 : Int32)), .val (.ref b10), .val (.ref w0), .val (.int (0 : Int32)), .val (.int (0 : Int32)), .val (.int (0 : Int32)), .val (.ref w0)] [(.ref w0), (.ref w0)])) X28 hx rfl rfl rfl (pc0 := 152) (pc' := 155) (same := true) rfl (hb hby at_152) rfl (decide_eq_true rfl) (by decide) (by decide) k)
          have pre32 : Go p e below T28 (mkF m 160 #[.val (.int p1), .val (.int (0 : Int32)), .val (.int (0 : Int32)), .val (.int (0 : Int32)), .val (.int (0 : Int32)), .val (.ref b10), .val (.ref w0), .val (.int (0 : Int32)), .val (.int (0 : Int32)), .val (.int (0 : Int32)), .val (.ref w0)] [(.int (1 : Int32))]) s₁ (entryFrame m #[(.int p1)] maxLocals) := fun t k => pre31 t (by
              show Steps p.tables e below (T28.setTop (mkF m 155 #[.val (.int p1), .val (.int (0 : Int32)), .val (.int (0 : Int32)), .val (.int (0 : Int32)), .val (.int (0 : Int32)), .val (.ref b10), .val (.ref w0), .val (.int (0 : Int32)), .val (.int (0 : Int32)), .val (.int (0 : Int32)), .val (.ref w0)] [])) t
              refine XS.iconst X28.here hx rfl (hb hby at_155) ?_
              show Steps p.tables e below (T28.setTop (mkF m 156 #[.val (.int p1), .val (.int (0 : Int32)), .val (.int (0 : Int32)), .val (.int (0 : Int32)), .val (.int (0 : Int32)), .val (.ref b10), .val (.ref w0), .val (.int (0 : Int32)), .val (.int (0 : Int32)), .val (.int (0 : Int32)), .val (.ref w0)] [(.int (1 : Int32))])) t
              refine XS.goto X28.here hx rfl (pc0 := 156) (pc' := 160) rfl (hb hby at_156) (by decide) (by decide) ?_
              exact k)
          have hnr : Value.int (nar .boolean (1 : Int32)) = (.int (1 : Int32)) := by rfl
          obtain ⟨fs, hr, hrun, hended, hW, hsame⟩ := X28.leave (v := some (.int (1 : Int32))) (fun h => by rw [Bd.returns] at h; cases h)
          refine ⟨_, _, pre32 _ (retN X28 hx (t := .boolean) Bd.returns (by simp) (hb hby at_160) (hnr ▸ hr)), hrun, hended, _, _, rfl, ?_, ⟨_, rfl⟩, hW, hsame.mono (by decide) (by decide)⟩
          show QL Z p1 w0 w1 w2 h0 n0 _ T28.heap _
          rw [e28]
          exact ⟨rfl, N18⟩
        · have pre33 : Go p e below s₁ (mkF m 47 #[.val (.int p1), .val (.int (0 : Int32)), .val (.int (0 : Int32)), .val (.int (0 : Int32)), .unset, .unset, .unset, .unset, .unset, .unset, .unset] []) s₁ (entryFrame m #[(.int p1)] maxLocals) := fun t k => pre7 t (XS.ifNo X0.here hx rfl (hb hby at_44) rfl ((if0 _ _).trans (feq hc44).1) k)
          have pre34 : Go p e below s₁ (mkF m 48 #[.val (.int p1), .val (.int (0 : Int32)), .val (.int (0 : Int32)), .val (.int (0 : Int32)), .unset, .unset, .unset, .unset, .unset, .unset, .unset] [(.int (0 : Int32))]) s₁ (entryFrame m #[(.int p1)] maxLocals) := fun t k => pre33 t (by
              show Steps p.tables e below (s₁.setTop (mkF m 47 #[.val (.int p1), .val (.int (0 : Int32)), .val (.int (0 : Int32)), .val (.int (0 : Int32)), .unset, .unset, .unset, .unset, .unset, .unset, .unset] [])) t
              refine XS.iloadN X0.here hx rfl (hb hby at_47) rfl ?_
              exact k)
          have pre35 : Go p e below s₁ (mkF m 51 #[.val (.int p1), .val (.int (0 : Int32)), .val (.int (0 : Int32)), .val (.int (0 : Int32)), .unset, .unset, .unset, .unset, .unset, .unset, .unset] []) s₁ (entryFrame m #[(.int p1)] maxLocals) := fun t k => pre34 t (XS.ifNo X0.here hx rfl (hb hby at_48) rfl ((if0 _ _).trans (teq (by decide : (0 : Int32) = (0 : Int32))).2) k)
          have pre36 : Go p e below s₁ (mkF m 58 #[.val (.int p1), .val (.int (0 : Int32)), .val (.int (0 : Int32)), .val (.int (0 : Int32)), .val (.int (1 : Int32)), .unset, .unset, .unset, .unset, .unset, .unset] []) s₁ (entryFrame m #[(.int p1)] maxLocals) := fun t k => pre35 t (by
              show Steps p.tables e below (s₁.setTop (mkF m 51 #[.val (.int p1), .val (.int (0 : Int32)), .val (.int (0 : Int32)), .val (.int (0 : Int32)), .unset, .unset, .unset, .unset, .unset, .unset, .unset] [])) t
              refine XS.iconst X0.here hx rfl (hb hby at_51) ?_
              show Steps p.tables e below (s₁.setTop (mkF m 52 #[.val (.int p1), .val (.int (0 : Int32)), .val (.int (0 : Int32)), .val (.int (0 : Int32)), .unset, .unset, .unset, .unset, .unset, .unset, .unset] [(.int (1 : Int32))])) t
              refine XS.goto X0.here hx rfl (pc0 := 52) (pc' := 56) rfl (hb hby at_52) (by decide) (by decide) ?_
              show Steps p.tables e below (s₁.setTop (mkF m 56 #[.val (.int p1), .val (.int (0 : Int32)), .val (.int (0 : Int32)), .val (.int (0 : Int32)), .unset, .unset, .unset, .unset, .unset, .unset, .unset] [(.int (1 : Int32))])) t
              refine XS.istore X0.here hx rfl (hb hby at_56) rfl (l' := #[.val (.int p1), .val (.int (0 : Int32)), .val (.int (0 : Int32)), .val (.int (0 : Int32)), .val (.int (1 : Int32)), .unset, .unset, .unset, .unset, .unset, .unset]) rfl ?_
              exact k)
          obtain ⟨T37, h37, X37, e37, E37, A37, D37, U37, st37⟩ := newO X0 hx hZ hown (hw _ (List.mem_of_getElem? (i := 0) rfl)) (hw _ (List.mem_of_getElem? (i := 1) rfl)) (hw _ (List.mem_of_getElem? (i := 2) rfl)) e0 (g := (mkF m 58 #[.val (.int p1), .val (.int (0 : Int32)), .val (.int (0 : Int32)), .val (.int (0 : Int32)), .val (.int (1 : Int32)), .unset, .unset, .unset, .unset, .unset, .unset] [])) rfl (hb hby at_58) (by decide) (by decide)
          obtain ⟨b37, g37⟩ : ∃ z, z = h0.size := ⟨_, rfl⟩
          rw [← g37] at A37 st37 D37
          have g_b37 : n0 ≤ b37 := Nat.le_trans Z0 (Nat.le_of_eq g37.symm)
          have pre38 : Go p e below T37 (mkF m 61 #[.val (.int p1), .val (.int (0 : Int32)), .val (.int (0 : Int32)), .val (.int (0 : Int32)), .val (.int (1 : Int32)), .unset, .unset, .unset, .unset, .unset, .unset] [(.ref b37)]) s₁ (entryFrame m #[(.int p1)] maxLocals) := fun t k => pre36 t (st37 t k)
          have O39 : Old Z n0 h37 := O0.ext E37
          have Z39 : n0 ≤ h37.size := Nat.le_trans Z0 E37.1
          have F_seesLeft_b37 : Fld Z h37 b37 "com/example/picketline/picketline/protocol/Surroundings" "seesLeft" "Z" (.int (0 : Int32)) := D37 (Or.inr (hw _ (List.mem_of_getElem? (i := 15) rfl))) (ty := .boolean) (by decide)
          have F_seesRight_b37 : Fld Z h37 b37 "com/example/picketline/picketline/protocol/Surroundings" "seesRight" "Z" (.int (0 : Int32)) := D37 (Or.inr (hw _ (List.mem_of_getElem? (i := 17) rfl))) (ty := .boolean) (by decide)
          have F_gapLeft_b37 : Fld Z h37 b37 "com/example/picketline/picketline/protocol/Surroundings" "gapLeft" "Z" (.int (0 : Int32)) := D37 (Or.inr (hw _ (List.mem_of_getElem? (i := 19) rfl))) (ty := .boolean) (by decide)
          have F_gapRight_b37 : Fld Z h37 b37 "com/example/picketline/picketline/protocol/Surroundings" "gapRight" "Z" (.int (0 : Int32)) := D37 (Or.inr (hw _ (List.mem_of_getElem? (i := 21) rfl))) (ty := .boolean) (by decide)
          have pre40 : Go p e below T37 (mkF m 67 #[.val (.int p1), .val (.int (0 : Int32)), .val (.int (0 : Int32)), .val (.int (0 : Int32)), .val (.int (1 : Int32)), .unset, .unset, .unset, .unset, .unset, .unset] [(.int (1 : Int32)), (.int (0 : Int32)), (.int (0 : Int32)), (.int (0 : Int32)), (.ref b37), (.ref b37)]) s₁ (entryFrame m #[(.int p1)] maxLocals) := fun t k => pre38 t (by
              show Steps p.tables e below (T37.setTop (mkF m 61 #[.val (.int p1), .val (.int (0 : Int32)), .val (.int (0 : Int32)), .val (.int (0 : Int32)), .val (.int (1 : Int32)), .unset, .unset, .unset, .unset, .unset, .unset] [(.ref b37)])) t
              refine XS.dup X37.here hx rfl (hb hby at_61) rfl rfl ?_
              show Steps p.tables e below (T37.setTop (mkF m 62 #[.val (.int p1), .val (.int (0 : Int32)), .val (.int (0 : Int32)), .val (.int (0 : Int32)), .val (.int (1 : Int32)), .unset, .unset, .unset, .unset, .unset, .unset] [(.ref b37), (.ref b37)])) t
              refine XS.iloadN X37.here hx rfl (hb hby at_62) rfl ?_
              show Steps p.tables e below (T37.setTop (mkF m 63 #[.val (.int p1), .val (.int (0 : Int32)), .val (.int (0 : Int32)), .val (.int (0 : Int32)), .val (.int (1 : Int32)), .unset, .unset, .unset, .unset, .unset, .unset] [(.int (0 : Int32)), (.ref b37), (.ref b37)])) t
              refine XS.iloadN X37.here hx rfl (hb hby at_63) rfl ?_
              show Steps p.tables e below (T37.setTop (mkF m 64 #[.val (.int p1), .val (.int (0 : Int32)), .val (.int (0 : Int32)), .val (.int (0 : Int32)), .val (.int (1 : Int32)), .unset, .unset, .unset, .unset, .unset, .unset] [(.int (0 : Int32)), (.int (0 : Int32)), (.ref b37), (.ref b37)])) t
              refine XS.iloadN X37.here hx rfl (hb hby at_64) rfl ?_
              show Steps p.tables e below (T37.setTop (mkF m 65 #[.val (.int p1), .val (.int (0 : Int32)), .val (.int (0 : Int32)), .val (.int (0 : Int32)), .val (.int (1 : Int32)), .unset, .unset, .unset, .unset, .unset, .unset] [(.int (0 : Int32)), (.int (0 : Int32)), (.int (0 : Int32)), (.ref b37), (.ref b37)])) t
              refine XS.iload X37.here hx rfl (hb hby at_65) rfl ?_
              exact k)
          obtain ⟨_, _, ⟨T41, L41, k41, n41⟩, -, X41, ⟨Lc41, hQ41, l41, y41, z41⟩, st41⟩ := X37.specialBack hx (y := (⟨"com/example/picketline/picketline/protocol/Surroundings", "<init>", "(ZZZZ)V"⟩ : MethodName)) rfl hown (mvT hZ (hw _ (List.mem_of_getElem? (i := 3) rfl))) (mvT hZ (hw _ (List.mem_of_getElem? (i := 4) rfl))) (mvT hZ (hw _ (List.mem_of_getElem? (i := 5) rfl))) (by decide) (backOf (W := 1) (rmC l Z a0 hw [] b37 (0 : Int32) (0 : Int32) (0 : Int32) (1 : Int32) h37 n0 Z39 A37 g_b37 F_seesLeft_b37 F_seesRight_b37 F_gapLeft_b37 F_gapRight_b37 rfl rfl rfl rfl rfl rfl rfl rfl) hZ (hw _ (List.mem_of_getElem? (i := 5) rfl)) (hw _ (List.mem_of_getElem? (i := 2) rfl)) (by decide) (by decide)) (g := (mkF m 67 #[.val (.int p1), .val (.int (0 : Int32)), .val (.int (0 : Int32)), .val (.int (0 : Int32)), .val (.int (1 : Int32)), .unset, .unset, .unset, .unset, .unset, .unset] [(.int (1 : Int32)), (.int (0 : Int32)), (.int (0 : Int32)), (.int (0 : Int32)), (.ref b37), (.ref b37)])) rfl (by rw [hml]; rfl) (Steps.refl _) (a := b37) (argsL := [(.int (0 : Int32)), (.int (0 : Int32)), (.int (0 : Int32)), (.int (1 : Int32))]) (rest := [(.ref b37)]) (lenOf pdL_0 rfl) rfl (by show 2 * 0 + _ ≤ _; exact Nat.le_of_eq rfl) (hb hby at_67) (fun _ _ => ⟨rfl, e37, (by decide : 1 + 0 ≤ _), (by decide : 4 + 0 ≤ _)⟩)
          dsimp only [Pt.U, Pt.locs, Pt.cells, Pt.slots] at X41 l41 y41 z41 st41 hQ41
          subst l41 y41 z41
          obtain ⟨rfl, N41q, K41, EX41, G0_41, G1_41, G2_41, G3_41⟩ := hQ41
          have N41 := Fr.app N0 N41q
          have pre42 : Go p e below T41 (mkF m 70 #[.val (.int p1), .val (.int (0 : Int32)), .val (.int (0 : Int32)), .val (.int (0 : Int32)), .val (.int (1 : Int32)), .unset, .unset, .unset, .unset, .unset, .unset] [(.ref b37)]) s₁ (entryFrame m #[(.int p1)] maxLocals) := fun t k => pre40 t (st41.trans k)
          have O43 : Old Z n0 T41.heap := O39.keep K41 (allS g_b37 all0)
          have Z43 : n0 ≤ T41.heap.size := Nat.le_trans Z39 K41.1
          have pre44 : Go p e below T41 (mkF m 74 #[.val (.int p1), .val (.int (0 : Int32)), .val (.int (0 : Int32)), .val (.int (0 : Int32)), .val (.int (1 : Int32)), .val (.ref b37), .unset, .unset, .unset, .unset, .unset] [(.ref b37)]) s₁ (entryFrame m #[(.int p1)] maxLocals) := fun t k => pre42 t (by
              show Steps p.tables e below (T41.setTop (mkF m 70 #[.val (.int p1), .val (.int (0 : Int32)), .val (.int (0 : Int32)), .val (.int (0 : Int32)), .val (.int (1 : Int32)), .unset, .unset, .unset, .unset, .unset, .unset] [(.ref b37)])) t
              refine XS.astore X41.here hx rfl (hb hby at_70) rfl rfl (l' := #[.val (.int p1), .val (.int (0 : Int32)), .val (.int (0 : Int32)), .val (.int (0 : Int32)), .val (.int (1 : Int32)), .val (.ref b37), .unset, .unset, .unset, .unset, .unset]) rfl ?_
              show Steps p.tables e below (T41.setTop (mkF m 72 #[.val (.int p1), .val (.int (0 : Int32)), .val (.int (0 : Int32)), .val (.int (0 : Int32)), .val (.int (1 : Int32)), .val (.ref b37), .unset, .unset, .unset, .unset, .unset] [])) t
              refine XS.aload X41.here hx rfl (hb hby at_72) rfl rfl ?_
              exact k)
          obtain ⟨cq45, kq45, q45a, q45b, q45c⟩ := isOf hZ rfl EX41
          obtain ⟨_, _, ⟨T45, L45, k45, n45⟩, -, X45, ⟨Lc45, hQ45, l45, y45, z45⟩, st45⟩ := X41.virtualBack hx (y := (⟨"com/example/picketline/picketline/protocol/Surroundings", "towardGap", "()Lcom/example/picketline/picketline/protocol/Heading;"⟩ : MethodName)) (z := (⟨"com/example/picketline/picketline/protocol/Surroundings", "towardGap", "()Lcom/example/picketline/picketline/protocol/Heading;"⟩ : MethodName)) hown (mvT hZ (hw _ (List.mem_of_getElem? (i := 22) rfl))) (mvT hZ (hw _ (List.mem_of_getElem? (i := 23) rfl))) (notFace_of_selects (args := #[]) (mvT hZ (hw _ (List.mem_of_getElem? (i := 25) rfl)))) (mvT hZ (hw _ (List.mem_of_getElem? (i := 25) rfl))) (mvT hZ (hw _ (List.mem_of_getElem? (i := 24) rfl))) (by decide) (backOf (W := 0) (rmT l Z a0 hw [] b37 (0 : Int32) (0 : Int32) (0 : Int32) (1 : Int32) w0 w1 w2 w0 T41.heap n0 Z43 G0_41 G1_41 G2_41 G3_41 (S0.ext O43.2) (S1.ext O43.2) (S2.ext O43.2) (by simp [towF])) hZ (hw _ (List.mem_of_getElem? (i := 26) rfl)) (hw _ (List.mem_of_getElem? (i := 2) rfl)) (by decide) (by decide)) q45a q45c (g := (mkF m 74 #[.val (.int p1), .val (.int (0 : Int32)), .val (.int (0 : Int32)), .val (.int (0 : Int32)), .val (.int (1 : Int32)), .val (.ref b37), .unset, .unset, .unset, .unset, .unset] [(.ref b37)])) rfl (by rw [hml]; rfl) (Steps.refl _) (argsL := []) (rest := []) (lenOf pdL_1 rfl) rfl (by show 2 * 0 + _ ≤ _; exact Nat.le_of_eq rfl) (hb hby at_74) (fun _ _ => ⟨rfl, rfl, (by decide : 1 + 0 ≤ _), (by decide : 4 + 0 ≤ _)⟩)
          dsimp only [Pt.U, Pt.locs, Pt.cells, Pt.slots] at X45 l45 y45 z45 st45 hQ45
          subst l45 y45 z45
          obtain ⟨rfl, N45q, hq45⟩ := hQ45
          have N45 := Fr.app N41 N45q
          have pre46 : Go p e below T45 (mkF m 77 #[.val (.int p1), .val (.int (0 : Int32)), .val (.int (0 : Int32)), .val (.int (0 : Int32)), .val (.int (1 : Int32)), .val (.ref b37), .unset, .unset, .unset, .unset, .unset] [(.ref w0)]) s₁ (entryFrame m #[(.int p1)] maxLocals) := fun t k => pre44 t (st45.trans k)
          have e45 : T45.heap = T41.heap := hq45
          have pre47 : Go p e below T45 (mkF m 80 #[.val (.int p1), .val (.int (0 : Int32)), .val (.int (0 : Int32)), .val (.int (0 : Int32)), .val (.int (1 : Int32)), .val (.ref b37), .val (.ref w0), .unset, .unset, .unset, .unset] [(.int (0 : Int32))]) s₁ (entryFrame m #[(.int p1)] maxLocals) := fun t k => pre46 t (by
              show Steps p.tables e below (T45.setTop (mkF m 77 #[.val (.int p1), .val (.int (0 : Int32)), .val (.int (0 : Int32)), .val (.int (0 : Int32)), .val (.int (1 : Int32)), .val (.ref b37), .unset, .unset, .unset, .unset, .unset] [(.ref w0)])) t
              refine XS.astore X45.here hx rfl (hb hby at_77) rfl rfl (l' := #[.val (.int p1), .val (.int (0 : Int32)), .val (.int (0 : Int32)), .val (.int (0 : Int32)), .val (.int (1 : Int32)), .val (.ref b37), .val (.ref w0), .unset, .unset, .unset, .unset]) rfl ?_
              show Steps p.tables e below (T45.setTop (mkF m 79 #[.val (.int p1), .val (.int (0 : Int32)), .val (.int (0 : Int32)), .val (.int (0 : Int32)), .val (.int (1 : Int32)), .val (.ref b37), .val (.ref w0), .unset, .unset, .unset, .unset] [])) t
              refine XS.iloadN X45.here hx rfl (hb hby at_79) rfl ?_
              exact k)
          have pre48 : Go p e below T45 (mkF m 92 #[.val (.int p1), .val (.int (0 : Int32)), .val (.int (0 : Int32)), .val (.int (0 : Int32)), .val (.int (1 : Int32)), .val (.ref b37), .val (.ref w0), .unset, .unset, .unset, .unset] []) s₁ (entryFrame m #[(.int p1)] maxLocals) := fun t k => pre47 t (XS.ifYes X45.here hx rfl (pc0 := 80) (pc' := 92) rfl (hb hby at_80) rfl ((if0 _ _).trans (teq (by decide : (0 : Int32) = (0 : Int32))).1) (by decide) (by decide) k)
          have pre49 : Go p e below T45 (mkF m 96 #[.val (.int p1), .val (.int (0 : Int32)), .val (.int (0 : Int32)), .val (.int (0 : Int32)), .val (.int (1 : Int32)), .val (.ref b37), .val (.ref w0), .val (.int (0 : Int32)), .unset, .unset, .unset] [(.int (0 : Int32))]) s₁ (entryFrame m #[(.int p1)] maxLocals) := fun t k => pre48 t (by
              show Steps p.tables e below (T45.setTop (mkF m 92 #[.val (.int p1), .val (.int (0 : Int32)), .val (.int (0 : Int32)), .val (.int (0 : Int32)), .val (.int (1 : Int32)), .val (.ref b37), .val (.ref w0), .unset, .unset, .unset, .unset] [])) t
              refine XS.iconst X45.here hx rfl (hb hby at_92) ?_
              show Steps p.tables e below (T45.setTop (mkF m 93 #[.val (.int p1), .val (.int (0 : Int32)), .val (.int (0 : Int32)), .val (.int (0 : Int32)), .val (.int (1 : Int32)), .val (.ref b37), .val (.ref w0), .unset, .unset, .unset, .unset] [(.int (0 : Int32))])) t
              refine XS.istore X45.here hx rfl (hb hby at_93) rfl (l' := #[.val (.int p1), .val (.int (0 : Int32)), .val (.int (0 : Int32)), .val (.int (0 : Int32)), .val (.int (1 : Int32)), .val (.ref b37), .val (.ref w0), .val (.int (0 : Int32)), .unset, .unset, .unset]) rfl ?_
              show Steps p.tables e below (T45.setTop (mkF m 95 #[.val (.int p1), .val (.int (0 : Int32)), .val (.int (0 : Int32)), .val (.int (0 : Int32)), .val (.int (1 : Int32)), .val (.ref b37), .val (.ref w0), .val (.int (0 : Int32)), .unset, .unset, .unset] [])) t
              refine XS.iloadN X45.here hx rfl (hb hby at_95) rfl ?_
              exact k)
          have pre50 : Go p e below T45 (mkF m 107 #[.val (.int p1), .val (.int (0 : Int32)), .val (.int (0 : Int32)), .val (.int (0 : Int32)), .val (.int (1 : Int32)), .val (.ref b37), .val (.ref w0), .val (.int (0 : Int32)), .unset, .unset, .unset] []) s₁ (entryFrame m #[(.int p1)] maxLocals) := fun t k => pre49 t (XS.ifYes X45.here hx rfl (pc0 := 96) (pc' := 107) rfl (hb hby at_96) rfl ((if0 _ _).trans (teq (by decide : (0 : Int32) = (0 : Int32))).1) (by decide) (by decide) k)
          have pre51 : Go p e below T45 (mkF m 119 #[.val (.int p1), .val (.int (0 : Int32)), .val (.int (0 : Int32)), .val (.int (0 : Int32)), .val (.int (1 : Int32)), .val (.ref b37), .val (.ref w0), .val (.int (0 : Int32)), .val (.int (0 : Int32)), .val (.int (0 : Int32)), .unset] [(.int (0 : Int32))]) s₁ (entryFrame m #[(.int p1)] maxLocals) := fun t k => pre50 t (by
              show Steps p.tables e below (T45.setTop (mkF m 107 #[.val (.int p1), .val (.int (0 : Int32)), .val (.int (0 : Int32)), .val (.int (0 : Int32)), .val (.int (1 : Int32)), .val (.ref b37), .val (.ref w0), .val (.int (0 : Int32)), .unset, .unset, .unset] [])) t
              refine XS.iconst X45.here hx rfl (hb hby at_107) ?_
              show Steps p.tables e below (T45.setTop (mkF m 108 #[.val (.int p1), .val (.int (0 : Int32)), .val (.int (0 : Int32)), .val (.int (0 : Int32)), .val (.int (1 : Int32)), .val (.ref b37), .val (.ref w0), .val (.int (0 : Int32)), .unset, .unset, .unset] [(.int (0 : Int32))])) t
              refine XS.istore X45.here hx rfl (hb hby at_108) rfl (l' := #[.val (.int p1), .val (.int (0 : Int32)), .val (.int (0 : Int32)), .val (.int (0 : Int32)), .val (.int (1 : Int32)), .val (.ref b37), .val (.ref w0), .val (.int (0 : Int32)), .val (.int (0 : Int32)), .unset, .unset]) rfl ?_
              show Steps p.tables e below (T45.setTop (mkF m 110 #[.val (.int p1), .val (.int (0 : Int32)), .val (.int (0 : Int32)), .val (.int (0 : Int32)), .val (.int (1 : Int32)), .val (.ref b37), .val (.ref w0), .val (.int (0 : Int32)), .val (.int (0 : Int32)), .unset, .unset] [])) t
              refine XS.iload X45.here hx rfl (hb hby at_110) rfl ?_
              show Steps p.tables e below (T45.setTop (mkF m 112 #[.val (.int p1), .val (.int (0 : Int32)), .val (.int (0 : Int32)), .val (.int (0 : Int32)), .val (.int (1 : Int32)), .val (.ref b37), .val (.ref w0), .val (.int (0 : Int32)), .val (.int (0 : Int32)), .unset, .unset] [(.int (0 : Int32))])) t
              refine XS.iload X45.here hx rfl (hb hby at_112) rfl ?_
              show Steps p.tables e below (T45.setTop (mkF m 114 #[.val (.int p1), .val (.int (0 : Int32)), .val (.int (0 : Int32)), .val (.int (0 : Int32)), .val (.int (1 : Int32)), .val (.ref b37), .val (.ref w0), .val (.int (0 : Int32)), .val (.int (0 : Int32)), .unset, .unset] [(.int (0 : Int32)), (.int (0 : Int32))])) t
              refine XS.isub X45.here hx rfl (hb hby at_114) rfl ?_
              show Steps p.tables e below (T45.setTop (mkF m 115 #[.val (.int p1), .val (.int (0 : Int32)), .val (.int (0 : Int32)), .val (.int (0 : Int32)), .val (.int (1 : Int32)), .val (.ref b37), .val (.ref w0), .val (.int (0 : Int32)), .val (.int (0 : Int32)), .unset, .unset] [(.int (0 : Int32))])) t
              refine XS.istore X45.here hx rfl (hb hby at_115) rfl (l' := #[.val (.int p1), .val (.int (0 : Int32)), .val (.int (0 : Int32)), .val (.int (0 : Int32)), .val (.int (1 : Int32)), .val (.ref b37), .val (.ref w0), .val (.int (0 : Int32)), .val (.int (0 : Int32)), .val (.int (0 : Int32)), .unset]) rfl ?_
              show Steps p.tables e below (T45.setTop (mkF m 117 #[.val (.int p1), .val (.int (0 : Int32)), .val (.int (0 : Int32)), .val (.int (0 : Int32)), .val (.int (1 : Int32)), .val (.ref b37), .val (.ref w0), .val (.int (0 : Int32)), .val (.int (0 : Int32)), .val (.int (0 : Int32)), .unset] [])) t
              refine XS.iload X45.here hx rfl (hb hby at_117) rfl ?_
              exact k)
          have pre52 : Go p e below T45 (mkF m 130 #[.val (.int p1), .val (.int (0 : Int32)), .val (.int (0 : Int32)), .val (.int (0 : Int32)), .val (.int (1 : Int32)), .val (.ref b37), .val (.ref w0), .val (.int (0 : Int32)), .val (.int (0 : Int32)), .val (.int (0 : Int32)), .unset] []) s₁ (entryFrame m #[(.int p1)] maxLocals) := fun t k => pre51 t (XS.ifYes X45.here hx rfl (pc0 := 119) (pc' := 130) rfl (hb hby at_119) rfl ((if0 _ _).trans (flt (by decide : ¬ ((0 : Int32) < (0 : Int32)))).2.2.2) (by decide) (by decide) k)
          have pre53 : Go p e below T45 (mkF m 132 #[.val (.int p1), .val (.int (0 : Int32)), .val (.int (0 : Int32)), .val (.int (0 : Int32)), .val (.int (1 : Int32)), .val (.ref b37), .val (.ref w0), .val (.int (0 : Int32)), .val (.int (0 : Int32)), .val (.int (0 : Int32)), .unset] [(.int (0 : Int32))]) s₁ (entryFrame m #[(.int p1)] maxLocals) := fun t k => pre52 t (by
              show Steps p.tables e below (T45.setTop (mkF m 130 #[.val (.int p1), .val (.int (0 : Int32)), .val (.int (0 : Int32)), .val (.int (0 : Int32)), .val (.int (1 : Int32)), .val (.ref b37), .val (.ref w0), .val (.int (0 : Int32)), .val (.int (0 : Int32)), .val (.int (0 : Int32)), .unset] [])) t
              refine XS.iload X45.here hx rfl (hb hby at_130) rfl ?_
              exact k)
          have pre54 : Go p e below T45 (mkF m 143 #[.val (.int p1), .val (.int (0 : Int32)), .val (.int (0 : Int32)), .val (.int (0 : Int32)), .val (.int (1 : Int32)), .val (.ref b37), .val (.ref w0), .val (.int (0 : Int32)), .val (.int (0 : Int32)), .val (.int (0 : Int32)), .unset] []) s₁ (entryFrame m #[(.int p1)] maxLocals) := fun t k => pre53 t (XS.ifYes X45.here hx rfl (pc0 := 132) (pc' := 143) rfl (hb hby at_132) rfl ((if0 _ _).trans (flt (by decide : ¬ ((0 : Int32) < (0 : Int32)))).2.1) (by decide) (by decide) k)
          obtain ⟨T55, X55, e55, st55⟩ := getS2 X45 hx hZ hown (host := "") (Or.inl (hw _ (List.mem_of_getElem? (i := 30) rfl))) Via.refl e45 (S0.ext O43.2) (g := (mkF m 143 #[.val (.int p1), .val (.int (0 : Int32)), .val (.int (0 : Int32)), .val (.int (0 : Int32)), .val (.int (1 : Int32)), .val (.ref b37), .val (.ref w0), .val (.int (0 : Int32)), .val (.int (0 : Int32)), .val (.int (0 : Int32)), .unset] [])) rfl (hb hby at_143)
          have pre56 : Go p e below T55 (mkF m 146 #[.val (.int p1), .val (.int (0 : Int32)), .val (.int (0 : Int32)), .val (.int (0 : Int32)), .val (.int (1 : Int32)), .val (.ref b37), .val (.ref w0), .val (.int (0 : Int32)), .val (.int (0 : Int32)), .val (.int (0 : Int32)), .unset] [(.ref w0)]) s₁ (entryFrame m #[(.int p1)] maxLocals) := fun t k => pre54 t (st55 t k)
          have pre57 : Go p e below T55 (mkF m 152 #[.val (.int p1), .val (.int (0 : Int32)), .val (.int (0 : Int32)), .val (.int (0 : Int32)), .val (.int (1 : Int32)), .val (.ref b37), .val (.ref w0), .val (.int (0 : Int32)), .val (.int (0 : Int32)), .val (.int (0 : Int32)), .val (.ref w0)] [(.ref w0), (.ref w0)]) s₁ (entryFrame m #[(.int p1)] maxLocals) := fun t k => pre56 t (by
              show Steps p.tables e below (T55.setTop (mkF m 146 #[.val (.int p1), .val (.int (0 : Int32)), .val (.int (0 : Int32)), .val (.int (0 : Int32)), .val (.int (1 : Int32)), .val (.ref b37), .val (.ref w0), .val (.int (0 : Int32)), .val (.int (0 : Int32)), .val (.int (0 : Int32)), .unset] [(.ref w0)])) t
              refine XS.astore X55.here hx rfl (hb hby at_146) rfl rfl (l' := #[.val (.int p1), .val (.int (0 : Int32)), .val (.int (0 : Int32)), .val (.int (0 : Int32)), .val (.int (1 : Int32)), .val (.ref b37), .val (.ref w0), .val (.int (0 : Int32)), .val (.int (0 : Int32)), .val (.int (0 : Int32)), .val (.ref w0)]) rfl ?_
              show Steps p.tables e below (T55.setTop (mkF m 148 #[.val (.int p1), .val (.int (0 : Int32)), .val (.int (0 : Int32)), .val (.int (0 : Int32)), .val (.int (1 : Int32)), .val (.ref b37), .val (.ref w0), .val (.int (0 : Int32)), .val (.int (0 : Int32)), .val (.int (0 : Int32)), .val (.ref w0)] [])) t
              refine XS.aload X55.here hx rfl (hb hby at_148) rfl rfl ?_
              show Steps p.tables e below (T55.setTop (mkF m 150 #[.val (.int p1), .val (.int (0 : Int32)), .val (.int (0 : Int32)), .val (.int (0 : Int32)), .val (.int (1 : Int32)), .val (.ref b37), .val (.ref w0), .val (.int (0 : Int32)), .val (.int (0 : Int32)), .val (.int (0 : Int32)), .val (.ref w0)] [(.ref w0)])) t
              refine XS.aload X55.here hx rfl (hb hby at_150) rfl rfl ?_
              exact k)
          have pre58 : Go p e below T55 (mkF m 155 #[.val (.int p1), .val (.int (0 : Int32)), .val (.int (0 : Int32)), .val (.int (0 : Int32)), .val (.int (1 : Int32)), .val (.ref b37), .val (.ref w0), .val (.int (0 : Int32)), .val (.int (0 : Int32)), .val (.int (0 : Int32)), .val (.ref w0)] []) s₁ (entryFrame m #[(.int p1)] maxLocals) := fun t k => pre57 t (Jvm.RoadKit.acmp (g := (mkF m 152 #[.val (.int p1), .val (.int (0 : Int32)), .val (.int (0 : Int32)), .val (.int (0 : Int32)), .val (.int (1 : Int32)), .val (.ref b37), .val (.ref w0), .val (.int (0 : Int32)), .val (.int (0 : Int32)), .val (.int (0 : Int32)), .val (.ref w0)] [(.ref w0), (.ref w0)])) X55 hx rfl rfl rfl (pc0 := 152) (pc' := 155) (same := true) rfl (hb hby at_152) rfl (decide_eq_true rfl) (by decide) (by decide) k)
          have pre59 : Go p e below T55 (mkF m 160 #[.val (.int p1), .val (.int (0 : Int32)), .val (.int (0 : Int32)), .val (.int (0 : Int32)), .val (.int (1 : Int32)), .val (.ref b37), .val (.ref w0), .val (.int (0 : Int32)), .val (.int (0 : Int32)), .val (.int (0 : Int32)), .val (.ref w0)] [(.int (1 : Int32))]) s₁ (entryFrame m #[(.int p1)] maxLocals) := fun t k => pre58 t (by
              show Steps p.tables e below (T55.setTop (mkF m 155 #[.val (.int p1), .val (.int (0 : Int32)), .val (.int (0 : Int32)), .val (.int (0 : Int32)), .val (.int (1 : Int32)), .val (.ref b37), .val (.ref w0), .val (.int (0 : Int32)), .val (.int (0 : Int32)), .val (.int (0 : Int32)), .val (.ref w0)] [])) t
              refine XS.iconst X55.here hx rfl (hb hby at_155) ?_
              show Steps p.tables e below (T55.setTop (mkF m 156 #[.val (.int p1), .val (.int (0 : Int32)), .val (.int (0 : Int32)), .val (.int (0 : Int32)), .val (.int (1 : Int32)), .val (.ref b37), .val (.ref w0), .val (.int (0 : Int32)), .val (.int (0 : Int32)), .val (.int (0 : Int32)), .val (.ref w0)] [(.int (1 : Int32))])) t
              refine XS.goto X55.here hx rfl (pc0 := 156) (pc' := 160) rfl (hb hby at_156) (by decide) (by decide) ?_
              exact k)
          have hnr : Value.int (nar .boolean (1 : Int32)) = (.int (1 : Int32)) := by rfl
          obtain ⟨fs, hr, hrun, hended, hW, hsame⟩ := X55.leave (v := some (.int (1 : Int32))) (fun h => by rw [Bd.returns] at h; cases h)
          refine ⟨_, _, pre59 _ (retN X55 hx (t := .boolean) Bd.returns (by simp) (hb hby at_160) (hnr ▸ hr)), hrun, hended, _, _, rfl, ?_, ⟨_, rfl⟩, hW, hsame.mono (by decide) (by decide)⟩
          show QL Z p1 w0 w1 w2 h0 n0 _ T55.heap _
          rw [e55]
          exact ⟨rfl, N45⟩
      · have pre60 : Go p e below s₁ (mkF m 30 #[.val (.int p1), .val (.int (0 : Int32)), .val (.int (0 : Int32)), .unset, .unset, .unset, .unset, .unset, .unset, .unset, .unset] []) s₁ (entryFrame m #[(.int p1)] maxLocals) := fun t k => pre5 t (XS.ifNo X0.here hx rfl (hb hby at_27) rfl ((if0 _ _).trans (feq hc27).1) k)
        have pre61 : Go p e below s₁ (mkF m 31 #[.val (.int p1), .val (.int (0 : Int32)), .val (.int (0 : Int32)), .unset, .unset, .unset, .unset, .unset, .unset, .unset, .unset] [(.int (0 : Int32))]) s₁ (entryFrame m #[(.int p1)] maxLocals) := fun t k => pre60 t (by
            show Steps p.tables e below (s₁.setTop (mkF m 30 #[.val (.int p1), .val (.int (0 : Int32)), .val (.int (0 : Int32)), .unset, .unset, .unset, .unset, .unset, .unset, .unset, .unset] [])) t
            refine XS.iloadN X0.here hx rfl (hb hby at_30) rfl ?_
            exact k)
        have pre62 : Go p e below s₁ (mkF m 34 #[.val (.int p1), .val (.int (0 : Int32)), .val (.int (0 : Int32)), .unset, .unset, .unset, .unset, .unset, .unset, .unset, .unset] []) s₁ (entryFrame m #[(.int p1)] maxLocals) := fun t k => pre61 t (XS.ifNo X0.here hx rfl (hb hby at_31) rfl ((if0 _ _).trans (teq (by decide : (0 : Int32) = (0 : Int32))).2) k)
        have pre63 : Go p e below s₁ (mkF m 44 #[.val (.int p1), .val (.int (0 : Int32)), .val (.int (0 : Int32)), .val (.int (1 : Int32)), .unset, .unset, .unset, .unset, .unset, .unset, .unset] [(.int (p1 &&& (8 : Int32)))]) s₁ (entryFrame m #[(.int p1)] maxLocals) := fun t k => pre62 t (by
            show Steps p.tables e below (s₁.setTop (mkF m 34 #[.val (.int p1), .val (.int (0 : Int32)), .val (.int (0 : Int32)), .unset, .unset, .unset, .unset, .unset, .unset, .unset, .unset] [])) t
            refine XS.iconst X0.here hx rfl (hb hby at_34) ?_
            show Steps p.tables e below (s₁.setTop (mkF m 35 #[.val (.int p1), .val (.int (0 : Int32)), .val (.int (0 : Int32)), .unset, .unset, .unset, .unset, .unset, .unset, .unset, .unset] [(.int (1 : Int32))])) t
            refine XS.goto X0.here hx rfl (pc0 := 35) (pc' := 39) rfl (hb hby at_35) (by decide) (by decide) ?_
            show Steps p.tables e below (s₁.setTop (mkF m 39 #[.val (.int p1), .val (.int (0 : Int32)), .val (.int (0 : Int32)), .unset, .unset, .unset, .unset, .unset, .unset, .unset, .unset] [(.int (1 : Int32))])) t
            refine XS.istoreN X0.here hx rfl (hb hby at_39) rfl (l' := #[.val (.int p1), .val (.int (0 : Int32)), .val (.int (0 : Int32)), .val (.int (1 : Int32)), .unset, .unset, .unset, .unset, .unset, .unset, .unset]) rfl ?_
            show Steps p.tables e below (s₁.setTop (mkF m 40 #[.val (.int p1), .val (.int (0 : Int32)), .val (.int (0 : Int32)), .val (.int (1 : Int32)), .unset, .unset, .unset, .unset, .unset, .unset, .unset] [])) t
            refine XS.iloadN X0.here hx rfl (hb hby at_40) rfl ?_
            show Steps p.tables e below (s₁.setTop (mkF m 41 #[.val (.int p1), .val (.int (0 : Int32)), .val (.int (0 : Int32)), .val (.int (1 : Int32)), .unset, .unset, .unset, .unset, .unset, .unset, .unset] [(.int p1)])) t
            refine XS.bipush X0.here hx rfl (hb hby at_41) ?_
            show Steps p.tables e below (s₁.setTop (mkF m 43 #[.val (.int p1), .val (.int (0 : Int32)), .val (.int (0 : Int32)), .val (.int (1 : Int32)), .unset, .unset, .unset, .unset, .unset, .unset, .unset] [(.int (8 : Int32)), (.int p1)])) t
            refine XS.iand X0.here hx rfl (hb hby at_43) rfl ?_
            exact k)
        by_cases hc44 : (p1 &&& (8 : Int32)) = (0 : Int32)
        · have pre64 : Go p e below s₁ (mkF m 55 #[.val (.int p1), .val (.int (0 : Int32)), .val (.int (0 : Int32)), .val (.int (1 : Int32)), .unset, .unset, .unset, .unset, .unset, .unset, .unset] []) s₁ (entryFrame m #[(.int p1)] maxLocals) := fun t k => pre63 t (XS.ifYes X0.here hx rfl (pc0 := 44) (pc' := 55) rfl (hb hby at_44) rfl ((if0 _ _).trans (teq hc44).1) (by decide) (by decide) k)
          have pre65 : Go p e below s₁ (mkF m 58 #[.val (.int p1), .val (.int (0 : Int32)), .val (.int (0 : Int32)), .val (.int (1 : Int32)), .val (.int (0 : Int32)), .unset, .unset, .unset, .unset, .unset, .unset] []) s₁ (entryFrame m #[(.int p1)] maxLocals) := fun t k => pre64 t (by
              show Steps p.tables e below (s₁.setTop (mkF m 55 #[.val (.int p1), .val (.int (0 : Int32)), .val (.int (0 : Int32)), .val (.int (1 : Int32)), .unset, .unset, .unset, .unset, .unset, .unset, .unset] [])) t
              refine XS.iconst X0.here hx rfl (hb hby at_55) ?_
              show Steps p.tables e below (s₁.setTop (mkF m 56 #[.val (.int p1), .val (.int (0 : Int32)), .val (.int (0 : Int32)), .val (.int (1 : Int32)), .unset, .unset, .unset, .unset, .unset, .unset, .unset] [(.int (0 : Int32))])) t
              refine XS.istore X0.here hx rfl (hb hby at_56) rfl (l' := #[.val (.int p1), .val (.int (0 : Int32)), .val (.int (0 : Int32)), .val (.int (1 : Int32)), .val (.int (0 : Int32)), .unset, .unset, .unset, .unset, .unset, .unset]) rfl ?_
              exact k)
          obtain ⟨T66, h66, X66, e66, E66, A66, D66, U66, st66⟩ := newO X0 hx hZ hown (hw _ (List.mem_of_getElem? (i := 0) rfl)) (hw _ (List.mem_of_getElem? (i := 1) rfl)) (hw _ (List.mem_of_getElem? (i := 2) rfl)) e0 (g := (mkF m 58 #[.val (.int p1), .val (.int (0 : Int32)), .val (.int (0 : Int32)), .val (.int (1 : Int32)), .val (.int (0 : Int32)), .unset, .unset, .unset, .unset, .unset, .unset] [])) rfl (hb hby at_58) (by decide) (by decide)
          obtain ⟨b66, g66⟩ : ∃ z, z = h0.size := ⟨_, rfl⟩
          rw [← g66] at A66 st66 D66
          have g_b66 : n0 ≤ b66 := Nat.le_trans Z0 (Nat.le_of_eq g66.symm)
          have pre67 : Go p e below T66 (mkF m 61 #[.val (.int p1), .val (.int (0 : Int32)), .val (.int (0 : Int32)), .val (.int (1 : Int32)), .val (.int (0 : Int32)), .unset, .unset, .unset, .unset, .unset, .unset] [(.ref b66)]) s₁ (entryFrame m #[(.int p1)] maxLocals) := fun t k => pre65 t (st66 t k)
          have O68 : Old Z n0 h66 := O0.ext E66
          have Z68 : n0 ≤ h66.size := Nat.le_trans Z0 E66.1
          have F_seesLeft_b66 : Fld Z h66 b66 "com/example/picketline/picketline/protocol/Surroundings" "seesLeft" "Z" (.int (0 : Int32)) := D66 (Or.inr (hw _ (List.mem_of_getElem? (i := 15) rfl))) (ty := .boolean) (by decide)
          have F_seesRight_b66 : Fld Z h66 b66 "com/example/picketline/picketline/protocol/Surroundings" "seesRight" "Z" (.int (0 : Int32)) := D66 (Or.inr (hw _ (List.mem_of_getElem? (i := 17) rfl))) (ty := .boolean) (by decide)
          have F_gapLeft_b66 : Fld Z h66 b66 "com/example/picketline/picketline/protocol/Surroundings" "gapLeft" "Z" (.int (0 : Int32)) := D66 (Or.inr (hw _ (List.mem_of_getElem? (i := 19) rfl))) (ty := .boolean) (by decide)
          have F_gapRight_b66 : Fld Z h66 b66 "com/example/picketline/picketline/protocol/Surroundings" "gapRight" "Z" (.int (0 : Int32)) := D66 (Or.inr (hw _ (List.mem_of_getElem? (i := 21) rfl))) (ty := .boolean) (by decide)
          have pre69 : Go p e below T66 (mkF m 67 #[.val (.int p1), .val (.int (0 : Int32)), .val (.int (0 : Int32)), .val (.int (1 : Int32)), .val (.int (0 : Int32)), .unset, .unset, .unset, .unset, .unset, .unset] [(.int (0 : Int32)), (.int (1 : Int32)), (.int (0 : Int32)), (.int (0 : Int32)), (.ref b66), (.ref b66)]) s₁ (entryFrame m #[(.int p1)] maxLocals) := fun t k => pre67 t (by
              show Steps p.tables e below (T66.setTop (mkF m 61 #[.val (.int p1), .val (.int (0 : Int32)), .val (.int (0 : Int32)), .val (.int (1 : Int32)), .val (.int (0 : Int32)), .unset, .unset, .unset, .unset, .unset, .unset] [(.ref b66)])) t
              refine XS.dup X66.here hx rfl (hb hby at_61) rfl rfl ?_
              show Steps p.tables e below (T66.setTop (mkF m 62 #[.val (.int p1), .val (.int (0 : Int32)), .val (.int (0 : Int32)), .val (.int (1 : Int32)), .val (.int (0 : Int32)), .unset, .unset, .unset, .unset, .unset, .unset] [(.ref b66), (.ref b66)])) t
              refine XS.iloadN X66.here hx rfl (hb hby at_62) rfl ?_
              show Steps p.tables e below (T66.setTop (mkF m 63 #[.val (.int p1), .val (.int (0 : Int32)), .val (.int (0 : Int32)), .val (.int (1 : Int32)), .val (.int (0 : Int32)), .unset, .unset, .unset, .unset, .unset, .unset] [(.int (0 : Int32)), (.ref b66), (.ref b66)])) t
              refine XS.iloadN X66.here hx rfl (hb hby at_63) rfl ?_
              show Steps p.tables e below (T66.setTop (mkF m 64 #[.val (.int p1), .val (.int (0 : Int32)), .val (.int (0 : Int32)), .val (.int (1 : Int32)), .val (.int (0 : Int32)), .unset, .unset, .unset, .unset, .unset, .unset] [(.int (0 : Int32)), (.int (0 : Int32)), (.ref b66), (.ref b66)])) t
              refine XS.iloadN X66.here hx rfl (hb hby at_64) rfl ?_
              show Steps p.tables e below (T66.setTop (mkF m 65 #[.val (.int p1), .val (.int (0 : Int32)), .val (.int (0 : Int32)), .val (.int (1 : Int32)), .val (.int (0 : Int32)), .unset, .unset, .unset, .unset, .unset, .unset] [(.int (1 : Int32)), (.int (0 : Int32)), (.int (0 : Int32)), (.ref b66), (.ref b66)])) t
              refine XS.iload X66.here hx rfl (hb hby at_65) rfl ?_
              exact k)
          obtain ⟨_, _, ⟨T70, L70, k70, n70⟩, -, X70, ⟨Lc70, hQ70, l70, y70, z70⟩, st70⟩ := X66.specialBack hx (y := (⟨"com/example/picketline/picketline/protocol/Surroundings", "<init>", "(ZZZZ)V"⟩ : MethodName)) rfl hown (mvT hZ (hw _ (List.mem_of_getElem? (i := 3) rfl))) (mvT hZ (hw _ (List.mem_of_getElem? (i := 4) rfl))) (mvT hZ (hw _ (List.mem_of_getElem? (i := 5) rfl))) (by decide) (backOf (W := 1) (rmC l Z a0 hw [] b66 (0 : Int32) (0 : Int32) (1 : Int32) (0 : Int32) h66 n0 Z68 A66 g_b66 F_seesLeft_b66 F_seesRight_b66 F_gapLeft_b66 F_gapRight_b66 rfl rfl rfl rfl rfl rfl rfl rfl) hZ (hw _ (List.mem_of_getElem? (i := 5) rfl)) (hw _ (List.mem_of_getElem? (i := 2) rfl)) (by decide) (by decide)) (g := (mkF m 67 #[.val (.int p1), .val (.int (0 : Int32)), .val (.int (0 : Int32)), .val (.int (1 : Int32)), .val (.int (0 : Int32)), .unset, .unset, .unset, .unset, .unset, .unset] [(.int (0 : Int32)), (.int (1 : Int32)), (.int (0 : Int32)), (.int (0 : Int32)), (.ref b66), (.ref b66)])) rfl (by rw [hml]; rfl) (Steps.refl _) (a := b66) (argsL := [(.int (0 : Int32)), (.int (0 : Int32)), (.int (1 : Int32)), (.int (0 : Int32))]) (rest := [(.ref b66)]) (lenOf pdL_0 rfl) rfl (by show 2 * 0 + _ ≤ _; exact Nat.le_of_eq rfl) (hb hby at_67) (fun _ _ => ⟨rfl, e66, (by decide : 1 + 0 ≤ _), (by decide : 4 + 0 ≤ _)⟩)
          dsimp only [Pt.U, Pt.locs, Pt.cells, Pt.slots] at X70 l70 y70 z70 st70 hQ70
          subst l70 y70 z70
          obtain ⟨rfl, N70q, K70, EX70, G0_70, G1_70, G2_70, G3_70⟩ := hQ70
          have N70 := Fr.app N0 N70q
          have pre71 : Go p e below T70 (mkF m 70 #[.val (.int p1), .val (.int (0 : Int32)), .val (.int (0 : Int32)), .val (.int (1 : Int32)), .val (.int (0 : Int32)), .unset, .unset, .unset, .unset, .unset, .unset] [(.ref b66)]) s₁ (entryFrame m #[(.int p1)] maxLocals) := fun t k => pre69 t (st70.trans k)
          have O72 : Old Z n0 T70.heap := O68.keep K70 (allS g_b66 all0)
          have Z72 : n0 ≤ T70.heap.size := Nat.le_trans Z68 K70.1
          have pre73 : Go p e below T70 (mkF m 74 #[.val (.int p1), .val (.int (0 : Int32)), .val (.int (0 : Int32)), .val (.int (1 : Int32)), .val (.int (0 : Int32)), .val (.ref b66), .unset, .unset, .unset, .unset, .unset] [(.ref b66)]) s₁ (entryFrame m #[(.int p1)] maxLocals) := fun t k => pre71 t (by
              show Steps p.tables e below (T70.setTop (mkF m 70 #[.val (.int p1), .val (.int (0 : Int32)), .val (.int (0 : Int32)), .val (.int (1 : Int32)), .val (.int (0 : Int32)), .unset, .unset, .unset, .unset, .unset, .unset] [(.ref b66)])) t
              refine XS.astore X70.here hx rfl (hb hby at_70) rfl rfl (l' := #[.val (.int p1), .val (.int (0 : Int32)), .val (.int (0 : Int32)), .val (.int (1 : Int32)), .val (.int (0 : Int32)), .val (.ref b66), .unset, .unset, .unset, .unset, .unset]) rfl ?_
              show Steps p.tables e below (T70.setTop (mkF m 72 #[.val (.int p1), .val (.int (0 : Int32)), .val (.int (0 : Int32)), .val (.int (1 : Int32)), .val (.int (0 : Int32)), .val (.ref b66), .unset, .unset, .unset, .unset, .unset] [])) t
              refine XS.aload X70.here hx rfl (hb hby at_72) rfl rfl ?_
              exact k)
          obtain ⟨cq74, kq74, q74a, q74b, q74c⟩ := isOf hZ rfl EX70
          obtain ⟨_, _, ⟨T74, L74, k74, n74⟩, -, X74, ⟨Lc74, hQ74, l74, y74, z74⟩, st74⟩ := X70.virtualBack hx (y := (⟨"com/example/picketline/picketline/protocol/Surroundings", "towardGap", "()Lcom/example/picketline/picketline/protocol/Heading;"⟩ : MethodName)) (z := (⟨"com/example/picketline/picketline/protocol/Surroundings", "towardGap", "()Lcom/example/picketline/picketline/protocol/Heading;"⟩ : MethodName)) hown (mvT hZ (hw _ (List.mem_of_getElem? (i := 22) rfl))) (mvT hZ (hw _ (List.mem_of_getElem? (i := 23) rfl))) (notFace_of_selects (args := #[]) (mvT hZ (hw _ (List.mem_of_getElem? (i := 25) rfl)))) (mvT hZ (hw _ (List.mem_of_getElem? (i := 25) rfl))) (mvT hZ (hw _ (List.mem_of_getElem? (i := 24) rfl))) (by decide) (backOf (W := 0) (rmT l Z a0 hw [] b66 (0 : Int32) (0 : Int32) (1 : Int32) (0 : Int32) w0 w1 w2 w0 T70.heap n0 Z72 G0_70 G1_70 G2_70 G3_70 (S0.ext O72.2) (S1.ext O72.2) (S2.ext O72.2) (by simp [towF])) hZ (hw _ (List.mem_of_getElem? (i := 26) rfl)) (hw _ (List.mem_of_getElem? (i := 2) rfl)) (by decide) (by decide)) q74a q74c (g := (mkF m 74 #[.val (.int p1), .val (.int (0 : Int32)), .val (.int (0 : Int32)), .val (.int (1 : Int32)), .val (.int (0 : Int32)), .val (.ref b66), .unset, .unset, .unset, .unset, .unset] [(.ref b66)])) rfl (by rw [hml]; rfl) (Steps.refl _) (argsL := []) (rest := []) (lenOf pdL_1 rfl) rfl (by show 2 * 0 + _ ≤ _; exact Nat.le_of_eq rfl) (hb hby at_74) (fun _ _ => ⟨rfl, rfl, (by decide : 1 + 0 ≤ _), (by decide : 4 + 0 ≤ _)⟩)
          dsimp only [Pt.U, Pt.locs, Pt.cells, Pt.slots] at X74 l74 y74 z74 st74 hQ74
          subst l74 y74 z74
          obtain ⟨rfl, N74q, hq74⟩ := hQ74
          have N74 := Fr.app N70 N74q
          have pre75 : Go p e below T74 (mkF m 77 #[.val (.int p1), .val (.int (0 : Int32)), .val (.int (0 : Int32)), .val (.int (1 : Int32)), .val (.int (0 : Int32)), .val (.ref b66), .unset, .unset, .unset, .unset, .unset] [(.ref w0)]) s₁ (entryFrame m #[(.int p1)] maxLocals) := fun t k => pre73 t (st74.trans k)
          have e74 : T74.heap = T70.heap := hq74
          have pre76 : Go p e below T74 (mkF m 80 #[.val (.int p1), .val (.int (0 : Int32)), .val (.int (0 : Int32)), .val (.int (1 : Int32)), .val (.int (0 : Int32)), .val (.ref b66), .val (.ref w0), .unset, .unset, .unset, .unset] [(.int (0 : Int32))]) s₁ (entryFrame m #[(.int p1)] maxLocals) := fun t k => pre75 t (by
              show Steps p.tables e below (T74.setTop (mkF m 77 #[.val (.int p1), .val (.int (0 : Int32)), .val (.int (0 : Int32)), .val (.int (1 : Int32)), .val (.int (0 : Int32)), .val (.ref b66), .unset, .unset, .unset, .unset, .unset] [(.ref w0)])) t
              refine XS.astore X74.here hx rfl (hb hby at_77) rfl rfl (l' := #[.val (.int p1), .val (.int (0 : Int32)), .val (.int (0 : Int32)), .val (.int (1 : Int32)), .val (.int (0 : Int32)), .val (.ref b66), .val (.ref w0), .unset, .unset, .unset, .unset]) rfl ?_
              show Steps p.tables e below (T74.setTop (mkF m 79 #[.val (.int p1), .val (.int (0 : Int32)), .val (.int (0 : Int32)), .val (.int (1 : Int32)), .val (.int (0 : Int32)), .val (.ref b66), .val (.ref w0), .unset, .unset, .unset, .unset] [])) t
              refine XS.iloadN X74.here hx rfl (hb hby at_79) rfl ?_
              exact k)
          have pre77 : Go p e below T74 (mkF m 92 #[.val (.int p1), .val (.int (0 : Int32)), .val (.int (0 : Int32)), .val (.int (1 : Int32)), .val (.int (0 : Int32)), .val (.ref b66), .val (.ref w0), .unset, .unset, .unset, .unset] []) s₁ (entryFrame m #[(.int p1)] maxLocals) := fun t k => pre76 t (XS.ifYes X74.here hx rfl (pc0 := 80) (pc' := 92) rfl (hb hby at_80) rfl ((if0 _ _).trans (teq (by decide : (0 : Int32) = (0 : Int32))).1) (by decide) (by decide) k)
          have pre78 : Go p e below T74 (mkF m 96 #[.val (.int p1), .val (.int (0 : Int32)), .val (.int (0 : Int32)), .val (.int (1 : Int32)), .val (.int (0 : Int32)), .val (.ref b66), .val (.ref w0), .val (.int (0 : Int32)), .unset, .unset, .unset] [(.int (0 : Int32))]) s₁ (entryFrame m #[(.int p1)] maxLocals) := fun t k => pre77 t (by
              show Steps p.tables e below (T74.setTop (mkF m 92 #[.val (.int p1), .val (.int (0 : Int32)), .val (.int (0 : Int32)), .val (.int (1 : Int32)), .val (.int (0 : Int32)), .val (.ref b66), .val (.ref w0), .unset, .unset, .unset, .unset] [])) t
              refine XS.iconst X74.here hx rfl (hb hby at_92) ?_
              show Steps p.tables e below (T74.setTop (mkF m 93 #[.val (.int p1), .val (.int (0 : Int32)), .val (.int (0 : Int32)), .val (.int (1 : Int32)), .val (.int (0 : Int32)), .val (.ref b66), .val (.ref w0), .unset, .unset, .unset, .unset] [(.int (0 : Int32))])) t
              refine XS.istore X74.here hx rfl (hb hby at_93) rfl (l' := #[.val (.int p1), .val (.int (0 : Int32)), .val (.int (0 : Int32)), .val (.int (1 : Int32)), .val (.int (0 : Int32)), .val (.ref b66), .val (.ref w0), .val (.int (0 : Int32)), .unset, .unset, .unset]) rfl ?_
              show Steps p.tables e below (T74.setTop (mkF m 95 #[.val (.int p1), .val (.int (0 : Int32)), .val (.int (0 : Int32)), .val (.int (1 : Int32)), .val (.int (0 : Int32)), .val (.ref b66), .val (.ref w0), .val (.int (0 : Int32)), .unset, .unset, .unset] [])) t
              refine XS.iloadN X74.here hx rfl (hb hby at_95) rfl ?_
              exact k)
          have pre79 : Go p e below T74 (mkF m 107 #[.val (.int p1), .val (.int (0 : Int32)), .val (.int (0 : Int32)), .val (.int (1 : Int32)), .val (.int (0 : Int32)), .val (.ref b66), .val (.ref w0), .val (.int (0 : Int32)), .unset, .unset, .unset] []) s₁ (entryFrame m #[(.int p1)] maxLocals) := fun t k => pre78 t (XS.ifYes X74.here hx rfl (pc0 := 96) (pc' := 107) rfl (hb hby at_96) rfl ((if0 _ _).trans (teq (by decide : (0 : Int32) = (0 : Int32))).1) (by decide) (by decide) k)
          have pre80 : Go p e below T74 (mkF m 119 #[.val (.int p1), .val (.int (0 : Int32)), .val (.int (0 : Int32)), .val (.int (1 : Int32)), .val (.int (0 : Int32)), .val (.ref b66), .val (.ref w0), .val (.int (0 : Int32)), .val (.int (0 : Int32)), .val (.int (0 : Int32)), .unset] [(.int (0 : Int32))]) s₁ (entryFrame m #[(.int p1)] maxLocals) := fun t k => pre79 t (by
              show Steps p.tables e below (T74.setTop (mkF m 107 #[.val (.int p1), .val (.int (0 : Int32)), .val (.int (0 : Int32)), .val (.int (1 : Int32)), .val (.int (0 : Int32)), .val (.ref b66), .val (.ref w0), .val (.int (0 : Int32)), .unset, .unset, .unset] [])) t
              refine XS.iconst X74.here hx rfl (hb hby at_107) ?_
              show Steps p.tables e below (T74.setTop (mkF m 108 #[.val (.int p1), .val (.int (0 : Int32)), .val (.int (0 : Int32)), .val (.int (1 : Int32)), .val (.int (0 : Int32)), .val (.ref b66), .val (.ref w0), .val (.int (0 : Int32)), .unset, .unset, .unset] [(.int (0 : Int32))])) t
              refine XS.istore X74.here hx rfl (hb hby at_108) rfl (l' := #[.val (.int p1), .val (.int (0 : Int32)), .val (.int (0 : Int32)), .val (.int (1 : Int32)), .val (.int (0 : Int32)), .val (.ref b66), .val (.ref w0), .val (.int (0 : Int32)), .val (.int (0 : Int32)), .unset, .unset]) rfl ?_
              show Steps p.tables e below (T74.setTop (mkF m 110 #[.val (.int p1), .val (.int (0 : Int32)), .val (.int (0 : Int32)), .val (.int (1 : Int32)), .val (.int (0 : Int32)), .val (.ref b66), .val (.ref w0), .val (.int (0 : Int32)), .val (.int (0 : Int32)), .unset, .unset] [])) t
              refine XS.iload X74.here hx rfl (hb hby at_110) rfl ?_
              show Steps p.tables e below (T74.setTop (mkF m 112 #[.val (.int p1), .val (.int (0 : Int32)), .val (.int (0 : Int32)), .val (.int (1 : Int32)), .val (.int (0 : Int32)), .val (.ref b66), .val (.ref w0), .val (.int (0 : Int32)), .val (.int (0 : Int32)), .unset, .unset] [(.int (0 : Int32))])) t
              refine XS.iload X74.here hx rfl (hb hby at_112) rfl ?_
              show Steps p.tables e below (T74.setTop (mkF m 114 #[.val (.int p1), .val (.int (0 : Int32)), .val (.int (0 : Int32)), .val (.int (1 : Int32)), .val (.int (0 : Int32)), .val (.ref b66), .val (.ref w0), .val (.int (0 : Int32)), .val (.int (0 : Int32)), .unset, .unset] [(.int (0 : Int32)), (.int (0 : Int32))])) t
              refine XS.isub X74.here hx rfl (hb hby at_114) rfl ?_
              show Steps p.tables e below (T74.setTop (mkF m 115 #[.val (.int p1), .val (.int (0 : Int32)), .val (.int (0 : Int32)), .val (.int (1 : Int32)), .val (.int (0 : Int32)), .val (.ref b66), .val (.ref w0), .val (.int (0 : Int32)), .val (.int (0 : Int32)), .unset, .unset] [(.int (0 : Int32))])) t
              refine XS.istore X74.here hx rfl (hb hby at_115) rfl (l' := #[.val (.int p1), .val (.int (0 : Int32)), .val (.int (0 : Int32)), .val (.int (1 : Int32)), .val (.int (0 : Int32)), .val (.ref b66), .val (.ref w0), .val (.int (0 : Int32)), .val (.int (0 : Int32)), .val (.int (0 : Int32)), .unset]) rfl ?_
              show Steps p.tables e below (T74.setTop (mkF m 117 #[.val (.int p1), .val (.int (0 : Int32)), .val (.int (0 : Int32)), .val (.int (1 : Int32)), .val (.int (0 : Int32)), .val (.ref b66), .val (.ref w0), .val (.int (0 : Int32)), .val (.int (0 : Int32)), .val (.int (0 : Int32)), .unset] [])) t
              refine XS.iload X74.here hx rfl (hb hby at_117) rfl ?_
              exact k)
          have pre81 : Go p e below T74 (mkF m 130 #[.val (.int p1), .val (.int (0 : Int32)), .val (.int (0 : Int32)), .val (.int (1 : Int32)), .val (.int (0 : Int32)), .val (.ref b66), .val (.ref w0), .val (.int (0 : Int32)), .val (.int (0 : Int32)), .val (.int (0 : Int32)), .unset] []) s₁ (entryFrame m #[(.int p1)] maxLocals) := fun t k => pre80 t (XS.ifYes X74.here hx rfl (pc0 := 119) (pc' := 130) rfl (hb hby at_119) rfl ((if0 _ _).trans (flt (by decide : ¬ ((0 : Int32) < (0 : Int32)))).2.2.2) (by decide) (by decide) k)
          have pre82 : Go p e below T74 (mkF m 132 #[.val (.int p1), .val (.int (0 : Int32)), .val (.int (0 : Int32)), .val (.int (1 : Int32)), .val (.int (0 : Int32)), .val (.ref b66), .val (.ref w0), .val (.int (0 : Int32)), .val (.int (0 : Int32)), .val (.int (0 : Int32)), .unset] [(.int (0 : Int32))]) s₁ (entryFrame m #[(.int p1)] maxLocals) := fun t k => pre81 t (by
              show Steps p.tables e below (T74.setTop (mkF m 130 #[.val (.int p1), .val (.int (0 : Int32)), .val (.int (0 : Int32)), .val (.int (1 : Int32)), .val (.int (0 : Int32)), .val (.ref b66), .val (.ref w0), .val (.int (0 : Int32)), .val (.int (0 : Int32)), .val (.int (0 : Int32)), .unset] [])) t
              refine XS.iload X74.here hx rfl (hb hby at_130) rfl ?_
              exact k)
          have pre83 : Go p e below T74 (mkF m 143 #[.val (.int p1), .val (.int (0 : Int32)), .val (.int (0 : Int32)), .val (.int (1 : Int32)), .val (.int (0 : Int32)), .val (.ref b66), .val (.ref w0), .val (.int (0 : Int32)), .val (.int (0 : Int32)), .val (.int (0 : Int32)), .unset] []) s₁ (entryFrame m #[(.int p1)] maxLocals) := fun t k => pre82 t (XS.ifYes X74.here hx rfl (pc0 := 132) (pc' := 143) rfl (hb hby at_132) rfl ((if0 _ _).trans (flt (by decide : ¬ ((0 : Int32) < (0 : Int32)))).2.1) (by decide) (by decide) k)
          obtain ⟨T84, X84, e84, st84⟩ := getS2 X74 hx hZ hown (host := "") (Or.inl (hw _ (List.mem_of_getElem? (i := 30) rfl))) Via.refl e74 (S0.ext O72.2) (g := (mkF m 143 #[.val (.int p1), .val (.int (0 : Int32)), .val (.int (0 : Int32)), .val (.int (1 : Int32)), .val (.int (0 : Int32)), .val (.ref b66), .val (.ref w0), .val (.int (0 : Int32)), .val (.int (0 : Int32)), .val (.int (0 : Int32)), .unset] [])) rfl (hb hby at_143)
          have pre85 : Go p e below T84 (mkF m 146 #[.val (.int p1), .val (.int (0 : Int32)), .val (.int (0 : Int32)), .val (.int (1 : Int32)), .val (.int (0 : Int32)), .val (.ref b66), .val (.ref w0), .val (.int (0 : Int32)), .val (.int (0 : Int32)), .val (.int (0 : Int32)), .unset] [(.ref w0)]) s₁ (entryFrame m #[(.int p1)] maxLocals) := fun t k => pre83 t (st84 t k)
          have pre86 : Go p e below T84 (mkF m 152 #[.val (.int p1), .val (.int (0 : Int32)), .val (.int (0 : Int32)), .val (.int (1 : Int32)), .val (.int (0 : Int32)), .val (.ref b66), .val (.ref w0), .val (.int (0 : Int32)), .val (.int (0 : Int32)), .val (.int (0 : Int32)), .val (.ref w0)] [(.ref w0), (.ref w0)]) s₁ (entryFrame m #[(.int p1)] maxLocals) := fun t k => pre85 t (by
              show Steps p.tables e below (T84.setTop (mkF m 146 #[.val (.int p1), .val (.int (0 : Int32)), .val (.int (0 : Int32)), .val (.int (1 : Int32)), .val (.int (0 : Int32)), .val (.ref b66), .val (.ref w0), .val (.int (0 : Int32)), .val (.int (0 : Int32)), .val (.int (0 : Int32)), .unset] [(.ref w0)])) t
              refine XS.astore X84.here hx rfl (hb hby at_146) rfl rfl (l' := #[.val (.int p1), .val (.int (0 : Int32)), .val (.int (0 : Int32)), .val (.int (1 : Int32)), .val (.int (0 : Int32)), .val (.ref b66), .val (.ref w0), .val (.int (0 : Int32)), .val (.int (0 : Int32)), .val (.int (0 : Int32)), .val (.ref w0)]) rfl ?_
              show Steps p.tables e below (T84.setTop (mkF m 148 #[.val (.int p1), .val (.int (0 : Int32)), .val (.int (0 : Int32)), .val (.int (1 : Int32)), .val (.int (0 : Int32)), .val (.ref b66), .val (.ref w0), .val (.int (0 : Int32)), .val (.int (0 : Int32)), .val (.int (0 : Int32)), .val (.ref w0)] [])) t
              refine XS.aload X84.here hx rfl (hb hby at_148) rfl rfl ?_
              show Steps p.tables e below (T84.setTop (mkF m 150 #[.val (.int p1), .val (.int (0 : Int32)), .val (.int (0 : Int32)), .val (.int (1 : Int32)), .val (.int (0 : Int32)), .val (.ref b66), .val (.ref w0), .val (.int (0 : Int32)), .val (.int (0 : Int32)), .val (.int (0 : Int32)), .val (.ref w0)] [(.ref w0)])) t
              refine XS.aload X84.here hx rfl (hb hby at_150) rfl rfl ?_
              exact k)
          have pre87 : Go p e below T84 (mkF m 155 #[.val (.int p1), .val (.int (0 : Int32)), .val (.int (0 : Int32)), .val (.int (1 : Int32)), .val (.int (0 : Int32)), .val (.ref b66), .val (.ref w0), .val (.int (0 : Int32)), .val (.int (0 : Int32)), .val (.int (0 : Int32)), .val (.ref w0)] []) s₁ (entryFrame m #[(.int p1)] maxLocals) := fun t k => pre86 t (Jvm.RoadKit.acmp (g := (mkF m 152 #[.val (.int p1), .val (.int (0 : Int32)), .val (.int (0 : Int32)), .val (.int (1 : Int32)), .val (.int (0 : Int32)), .val (.ref b66), .val (.ref w0), .val (.int (0 : Int32)), .val (.int (0 : Int32)), .val (.int (0 : Int32)), .val (.ref w0)] [(.ref w0), (.ref w0)])) X84 hx rfl rfl rfl (pc0 := 152) (pc' := 155) (same := true) rfl (hb hby at_152) rfl (decide_eq_true rfl) (by decide) (by decide) k)
          have pre88 : Go p e below T84 (mkF m 160 #[.val (.int p1), .val (.int (0 : Int32)), .val (.int (0 : Int32)), .val (.int (1 : Int32)), .val (.int (0 : Int32)), .val (.ref b66), .val (.ref w0), .val (.int (0 : Int32)), .val (.int (0 : Int32)), .val (.int (0 : Int32)), .val (.ref w0)] [(.int (1 : Int32))]) s₁ (entryFrame m #[(.int p1)] maxLocals) := fun t k => pre87 t (by
              show Steps p.tables e below (T84.setTop (mkF m 155 #[.val (.int p1), .val (.int (0 : Int32)), .val (.int (0 : Int32)), .val (.int (1 : Int32)), .val (.int (0 : Int32)), .val (.ref b66), .val (.ref w0), .val (.int (0 : Int32)), .val (.int (0 : Int32)), .val (.int (0 : Int32)), .val (.ref w0)] [])) t
              refine XS.iconst X84.here hx rfl (hb hby at_155) ?_
              show Steps p.tables e below (T84.setTop (mkF m 156 #[.val (.int p1), .val (.int (0 : Int32)), .val (.int (0 : Int32)), .val (.int (1 : Int32)), .val (.int (0 : Int32)), .val (.ref b66), .val (.ref w0), .val (.int (0 : Int32)), .val (.int (0 : Int32)), .val (.int (0 : Int32)), .val (.ref w0)] [(.int (1 : Int32))])) t
              refine XS.goto X84.here hx rfl (pc0 := 156) (pc' := 160) rfl (hb hby at_156) (by decide) (by decide) ?_
              exact k)
          have hnr : Value.int (nar .boolean (1 : Int32)) = (.int (1 : Int32)) := by rfl
          obtain ⟨fs, hr, hrun, hended, hW, hsame⟩ := X84.leave (v := some (.int (1 : Int32))) (fun h => by rw [Bd.returns] at h; cases h)
          refine ⟨_, _, pre88 _ (retN X84 hx (t := .boolean) Bd.returns (by simp) (hb hby at_160) (hnr ▸ hr)), hrun, hended, _, _, rfl, ?_, ⟨_, rfl⟩, hW, hsame.mono (by decide) (by decide)⟩
          show QL Z p1 w0 w1 w2 h0 n0 _ T84.heap _
          rw [e84]
          exact ⟨rfl, N74⟩
        · have pre89 : Go p e below s₁ (mkF m 47 #[.val (.int p1), .val (.int (0 : Int32)), .val (.int (0 : Int32)), .val (.int (1 : Int32)), .unset, .unset, .unset, .unset, .unset, .unset, .unset] []) s₁ (entryFrame m #[(.int p1)] maxLocals) := fun t k => pre63 t (XS.ifNo X0.here hx rfl (hb hby at_44) rfl ((if0 _ _).trans (feq hc44).1) k)
          have pre90 : Go p e below s₁ (mkF m 48 #[.val (.int p1), .val (.int (0 : Int32)), .val (.int (0 : Int32)), .val (.int (1 : Int32)), .unset, .unset, .unset, .unset, .unset, .unset, .unset] [(.int (0 : Int32))]) s₁ (entryFrame m #[(.int p1)] maxLocals) := fun t k => pre89 t (by
              show Steps p.tables e below (s₁.setTop (mkF m 47 #[.val (.int p1), .val (.int (0 : Int32)), .val (.int (0 : Int32)), .val (.int (1 : Int32)), .unset, .unset, .unset, .unset, .unset, .unset, .unset] [])) t
              refine XS.iloadN X0.here hx rfl (hb hby at_47) rfl ?_
              exact k)
          have pre91 : Go p e below s₁ (mkF m 51 #[.val (.int p1), .val (.int (0 : Int32)), .val (.int (0 : Int32)), .val (.int (1 : Int32)), .unset, .unset, .unset, .unset, .unset, .unset, .unset] []) s₁ (entryFrame m #[(.int p1)] maxLocals) := fun t k => pre90 t (XS.ifNo X0.here hx rfl (hb hby at_48) rfl ((if0 _ _).trans (teq (by decide : (0 : Int32) = (0 : Int32))).2) k)
          have pre92 : Go p e below s₁ (mkF m 58 #[.val (.int p1), .val (.int (0 : Int32)), .val (.int (0 : Int32)), .val (.int (1 : Int32)), .val (.int (1 : Int32)), .unset, .unset, .unset, .unset, .unset, .unset] []) s₁ (entryFrame m #[(.int p1)] maxLocals) := fun t k => pre91 t (by
              show Steps p.tables e below (s₁.setTop (mkF m 51 #[.val (.int p1), .val (.int (0 : Int32)), .val (.int (0 : Int32)), .val (.int (1 : Int32)), .unset, .unset, .unset, .unset, .unset, .unset, .unset] [])) t
              refine XS.iconst X0.here hx rfl (hb hby at_51) ?_
              show Steps p.tables e below (s₁.setTop (mkF m 52 #[.val (.int p1), .val (.int (0 : Int32)), .val (.int (0 : Int32)), .val (.int (1 : Int32)), .unset, .unset, .unset, .unset, .unset, .unset, .unset] [(.int (1 : Int32))])) t
              refine XS.goto X0.here hx rfl (pc0 := 52) (pc' := 56) rfl (hb hby at_52) (by decide) (by decide) ?_
              show Steps p.tables e below (s₁.setTop (mkF m 56 #[.val (.int p1), .val (.int (0 : Int32)), .val (.int (0 : Int32)), .val (.int (1 : Int32)), .unset, .unset, .unset, .unset, .unset, .unset, .unset] [(.int (1 : Int32))])) t
              refine XS.istore X0.here hx rfl (hb hby at_56) rfl (l' := #[.val (.int p1), .val (.int (0 : Int32)), .val (.int (0 : Int32)), .val (.int (1 : Int32)), .val (.int (1 : Int32)), .unset, .unset, .unset, .unset, .unset, .unset]) rfl ?_
              exact k)
          obtain ⟨T93, h93, X93, e93, E93, A93, D93, U93, st93⟩ := newO X0 hx hZ hown (hw _ (List.mem_of_getElem? (i := 0) rfl)) (hw _ (List.mem_of_getElem? (i := 1) rfl)) (hw _ (List.mem_of_getElem? (i := 2) rfl)) e0 (g := (mkF m 58 #[.val (.int p1), .val (.int (0 : Int32)), .val (.int (0 : Int32)), .val (.int (1 : Int32)), .val (.int (1 : Int32)), .unset, .unset, .unset, .unset, .unset, .unset] [])) rfl (hb hby at_58) (by decide) (by decide)
          obtain ⟨b93, g93⟩ : ∃ z, z = h0.size := ⟨_, rfl⟩
          rw [← g93] at A93 st93 D93
          have g_b93 : n0 ≤ b93 := Nat.le_trans Z0 (Nat.le_of_eq g93.symm)
          have pre94 : Go p e below T93 (mkF m 61 #[.val (.int p1), .val (.int (0 : Int32)), .val (.int (0 : Int32)), .val (.int (1 : Int32)), .val (.int (1 : Int32)), .unset, .unset, .unset, .unset, .unset, .unset] [(.ref b93)]) s₁ (entryFrame m #[(.int p1)] maxLocals) := fun t k => pre92 t (st93 t k)
          have O95 : Old Z n0 h93 := O0.ext E93
          have Z95 : n0 ≤ h93.size := Nat.le_trans Z0 E93.1
          have F_seesLeft_b93 : Fld Z h93 b93 "com/example/picketline/picketline/protocol/Surroundings" "seesLeft" "Z" (.int (0 : Int32)) := D93 (Or.inr (hw _ (List.mem_of_getElem? (i := 15) rfl))) (ty := .boolean) (by decide)
          have F_seesRight_b93 : Fld Z h93 b93 "com/example/picketline/picketline/protocol/Surroundings" "seesRight" "Z" (.int (0 : Int32)) := D93 (Or.inr (hw _ (List.mem_of_getElem? (i := 17) rfl))) (ty := .boolean) (by decide)
          have F_gapLeft_b93 : Fld Z h93 b93 "com/example/picketline/picketline/protocol/Surroundings" "gapLeft" "Z" (.int (0 : Int32)) := D93 (Or.inr (hw _ (List.mem_of_getElem? (i := 19) rfl))) (ty := .boolean) (by decide)
          have F_gapRight_b93 : Fld Z h93 b93 "com/example/picketline/picketline/protocol/Surroundings" "gapRight" "Z" (.int (0 : Int32)) := D93 (Or.inr (hw _ (List.mem_of_getElem? (i := 21) rfl))) (ty := .boolean) (by decide)
          have pre96 : Go p e below T93 (mkF m 67 #[.val (.int p1), .val (.int (0 : Int32)), .val (.int (0 : Int32)), .val (.int (1 : Int32)), .val (.int (1 : Int32)), .unset, .unset, .unset, .unset, .unset, .unset] [(.int (1 : Int32)), (.int (1 : Int32)), (.int (0 : Int32)), (.int (0 : Int32)), (.ref b93), (.ref b93)]) s₁ (entryFrame m #[(.int p1)] maxLocals) := fun t k => pre94 t (by
              show Steps p.tables e below (T93.setTop (mkF m 61 #[.val (.int p1), .val (.int (0 : Int32)), .val (.int (0 : Int32)), .val (.int (1 : Int32)), .val (.int (1 : Int32)), .unset, .unset, .unset, .unset, .unset, .unset] [(.ref b93)])) t
              refine XS.dup X93.here hx rfl (hb hby at_61) rfl rfl ?_
              show Steps p.tables e below (T93.setTop (mkF m 62 #[.val (.int p1), .val (.int (0 : Int32)), .val (.int (0 : Int32)), .val (.int (1 : Int32)), .val (.int (1 : Int32)), .unset, .unset, .unset, .unset, .unset, .unset] [(.ref b93), (.ref b93)])) t
              refine XS.iloadN X93.here hx rfl (hb hby at_62) rfl ?_
              show Steps p.tables e below (T93.setTop (mkF m 63 #[.val (.int p1), .val (.int (0 : Int32)), .val (.int (0 : Int32)), .val (.int (1 : Int32)), .val (.int (1 : Int32)), .unset, .unset, .unset, .unset, .unset, .unset] [(.int (0 : Int32)), (.ref b93), (.ref b93)])) t
              refine XS.iloadN X93.here hx rfl (hb hby at_63) rfl ?_
              show Steps p.tables e below (T93.setTop (mkF m 64 #[.val (.int p1), .val (.int (0 : Int32)), .val (.int (0 : Int32)), .val (.int (1 : Int32)), .val (.int (1 : Int32)), .unset, .unset, .unset, .unset, .unset, .unset] [(.int (0 : Int32)), (.int (0 : Int32)), (.ref b93), (.ref b93)])) t
              refine XS.iloadN X93.here hx rfl (hb hby at_64) rfl ?_
              show Steps p.tables e below (T93.setTop (mkF m 65 #[.val (.int p1), .val (.int (0 : Int32)), .val (.int (0 : Int32)), .val (.int (1 : Int32)), .val (.int (1 : Int32)), .unset, .unset, .unset, .unset, .unset, .unset] [(.int (1 : Int32)), (.int (0 : Int32)), (.int (0 : Int32)), (.ref b93), (.ref b93)])) t
              refine XS.iload X93.here hx rfl (hb hby at_65) rfl ?_
              exact k)
          obtain ⟨_, _, ⟨T97, L97, k97, n97⟩, -, X97, ⟨Lc97, hQ97, l97, y97, z97⟩, st97⟩ := X93.specialBack hx (y := (⟨"com/example/picketline/picketline/protocol/Surroundings", "<init>", "(ZZZZ)V"⟩ : MethodName)) rfl hown (mvT hZ (hw _ (List.mem_of_getElem? (i := 3) rfl))) (mvT hZ (hw _ (List.mem_of_getElem? (i := 4) rfl))) (mvT hZ (hw _ (List.mem_of_getElem? (i := 5) rfl))) (by decide) (backOf (W := 1) (rmC l Z a0 hw [] b93 (0 : Int32) (0 : Int32) (1 : Int32) (1 : Int32) h93 n0 Z95 A93 g_b93 F_seesLeft_b93 F_seesRight_b93 F_gapLeft_b93 F_gapRight_b93 rfl rfl rfl rfl rfl rfl rfl rfl) hZ (hw _ (List.mem_of_getElem? (i := 5) rfl)) (hw _ (List.mem_of_getElem? (i := 2) rfl)) (by decide) (by decide)) (g := (mkF m 67 #[.val (.int p1), .val (.int (0 : Int32)), .val (.int (0 : Int32)), .val (.int (1 : Int32)), .val (.int (1 : Int32)), .unset, .unset, .unset, .unset, .unset, .unset] [(.int (1 : Int32)), (.int (1 : Int32)), (.int (0 : Int32)), (.int (0 : Int32)), (.ref b93), (.ref b93)])) rfl (by rw [hml]; rfl) (Steps.refl _) (a := b93) (argsL := [(.int (0 : Int32)), (.int (0 : Int32)), (.int (1 : Int32)), (.int (1 : Int32))]) (rest := [(.ref b93)]) (lenOf pdL_0 rfl) rfl (by show 2 * 0 + _ ≤ _; exact Nat.le_of_eq rfl) (hb hby at_67) (fun _ _ => ⟨rfl, e93, (by decide : 1 + 0 ≤ _), (by decide : 4 + 0 ≤ _)⟩)
          dsimp only [Pt.U, Pt.locs, Pt.cells, Pt.slots] at X97 l97 y97 z97 st97 hQ97
          subst l97 y97 z97
          obtain ⟨rfl, N97q, K97, EX97, G0_97, G1_97, G2_97, G3_97⟩ := hQ97
          have N97 := Fr.app N0 N97q
          have pre98 : Go p e below T97 (mkF m 70 #[.val (.int p1), .val (.int (0 : Int32)), .val (.int (0 : Int32)), .val (.int (1 : Int32)), .val (.int (1 : Int32)), .unset, .unset, .unset, .unset, .unset, .unset] [(.ref b93)]) s₁ (entryFrame m #[(.int p1)] maxLocals) := fun t k => pre96 t (st97.trans k)
          have O99 : Old Z n0 T97.heap := O95.keep K97 (allS g_b93 all0)
          have Z99 : n0 ≤ T97.heap.size := Nat.le_trans Z95 K97.1
          have pre100 : Go p e below T97 (mkF m 74 #[.val (.int p1), .val (.int (0 : Int32)), .val (.int (0 : Int32)), .val (.int (1 : Int32)), .val (.int (1 : Int32)), .val (.ref b93), .unset, .unset, .unset, .unset, .unset] [(.ref b93)]) s₁ (entryFrame m #[(.int p1)] maxLocals) := fun t k => pre98 t (by
              show Steps p.tables e below (T97.setTop (mkF m 70 #[.val (.int p1), .val (.int (0 : Int32)), .val (.int (0 : Int32)), .val (.int (1 : Int32)), .val (.int (1 : Int32)), .unset, .unset, .unset, .unset, .unset, .unset] [(.ref b93)])) t
              refine XS.astore X97.here hx rfl (hb hby at_70) rfl rfl (l' := #[.val (.int p1), .val (.int (0 : Int32)), .val (.int (0 : Int32)), .val (.int (1 : Int32)), .val (.int (1 : Int32)), .val (.ref b93), .unset, .unset, .unset, .unset, .unset]) rfl ?_
              show Steps p.tables e below (T97.setTop (mkF m 72 #[.val (.int p1), .val (.int (0 : Int32)), .val (.int (0 : Int32)), .val (.int (1 : Int32)), .val (.int (1 : Int32)), .val (.ref b93), .unset, .unset, .unset, .unset, .unset] [])) t
              refine XS.aload X97.here hx rfl (hb hby at_72) rfl rfl ?_
              exact k)
          obtain ⟨cq101, kq101, q101a, q101b, q101c⟩ := isOf hZ rfl EX97
          obtain ⟨_, _, ⟨T101, L101, k101, n101⟩, -, X101, ⟨Lc101, hQ101, l101, y101, z101⟩, st101⟩ := X97.virtualBack hx (y := (⟨"com/example/picketline/picketline/protocol/Surroundings", "towardGap", "()Lcom/example/picketline/picketline/protocol/Heading;"⟩ : MethodName)) (z := (⟨"com/example/picketline/picketline/protocol/Surroundings", "towardGap", "()Lcom/example/picketline/picketline/protocol/Heading;"⟩ : MethodName)) hown (mvT hZ (hw _ (List.mem_of_getElem? (i := 22) rfl))) (mvT hZ (hw _ (List.mem_of_getElem? (i := 23) rfl))) (notFace_of_selects (args := #[]) (mvT hZ (hw _ (List.mem_of_getElem? (i := 25) rfl)))) (mvT hZ (hw _ (List.mem_of_getElem? (i := 25) rfl))) (mvT hZ (hw _ (List.mem_of_getElem? (i := 24) rfl))) (by decide) (backOf (W := 0) (rmT l Z a0 hw [] b93 (0 : Int32) (0 : Int32) (1 : Int32) (1 : Int32) w0 w1 w2 w0 T97.heap n0 Z99 G0_97 G1_97 G2_97 G3_97 (S0.ext O99.2) (S1.ext O99.2) (S2.ext O99.2) (by simp [towF])) hZ (hw _ (List.mem_of_getElem? (i := 26) rfl)) (hw _ (List.mem_of_getElem? (i := 2) rfl)) (by decide) (by decide)) q101a q101c (g := (mkF m 74 #[.val (.int p1), .val (.int (0 : Int32)), .val (.int (0 : Int32)), .val (.int (1 : Int32)), .val (.int (1 : Int32)), .val (.ref b93), .unset, .unset, .unset, .unset, .unset] [(.ref b93)])) rfl (by rw [hml]; rfl) (Steps.refl _) (argsL := []) (rest := []) (lenOf pdL_1 rfl) rfl (by show 2 * 0 + _ ≤ _; exact Nat.le_of_eq rfl) (hb hby at_74) (fun _ _ => ⟨rfl, rfl, (by decide : 1 + 0 ≤ _), (by decide : 4 + 0 ≤ _)⟩)
          dsimp only [Pt.U, Pt.locs, Pt.cells, Pt.slots] at X101 l101 y101 z101 st101 hQ101
          subst l101 y101 z101
          obtain ⟨rfl, N101q, hq101⟩ := hQ101
          have N101 := Fr.app N97 N101q
          have pre102 : Go p e below T101 (mkF m 77 #[.val (.int p1), .val (.int (0 : Int32)), .val (.int (0 : Int32)), .val (.int (1 : Int32)), .val (.int (1 : Int32)), .val (.ref b93), .unset, .unset, .unset, .unset, .unset] [(.ref w0)]) s₁ (entryFrame m #[(.int p1)] maxLocals) := fun t k => pre100 t (st101.trans k)
          have e101 : T101.heap = T97.heap := hq101
          have pre103 : Go p e below T101 (mkF m 80 #[.val (.int p1), .val (.int (0 : Int32)), .val (.int (0 : Int32)), .val (.int (1 : Int32)), .val (.int (1 : Int32)), .val (.ref b93), .val (.ref w0), .unset, .unset, .unset, .unset] [(.int (0 : Int32))]) s₁ (entryFrame m #[(.int p1)] maxLocals) := fun t k => pre102 t (by
              show Steps p.tables e below (T101.setTop (mkF m 77 #[.val (.int p1), .val (.int (0 : Int32)), .val (.int (0 : Int32)), .val (.int (1 : Int32)), .val (.int (1 : Int32)), .val (.ref b93), .unset, .unset, .unset, .unset, .unset] [(.ref w0)])) t
              refine XS.astore X101.here hx rfl (hb hby at_77) rfl rfl (l' := #[.val (.int p1), .val (.int (0 : Int32)), .val (.int (0 : Int32)), .val (.int (1 : Int32)), .val (.int (1 : Int32)), .val (.ref b93), .val (.ref w0), .unset, .unset, .unset, .unset]) rfl ?_
              show Steps p.tables e below (T101.setTop (mkF m 79 #[.val (.int p1), .val (.int (0 : Int32)), .val (.int (0 : Int32)), .val (.int (1 : Int32)), .val (.int (1 : Int32)), .val (.ref b93), .val (.ref w0), .unset, .unset, .unset, .unset] [])) t
              refine XS.iloadN X101.here hx rfl (hb hby at_79) rfl ?_
              exact k)
          have pre104 : Go p e below T101 (mkF m 92 #[.val (.int p1), .val (.int (0 : Int32)), .val (.int (0 : Int32)), .val (.int (1 : Int32)), .val (.int (1 : Int32)), .val (.ref b93), .val (.ref w0), .unset, .unset, .unset, .unset] []) s₁ (entryFrame m #[(.int p1)] maxLocals) := fun t k => pre103 t (XS.ifYes X101.here hx rfl (pc0 := 80) (pc' := 92) rfl (hb hby at_80) rfl ((if0 _ _).trans (teq (by decide : (0 : Int32) = (0 : Int32))).1) (by decide) (by decide) k)
          have pre105 : Go p e below T101 (mkF m 96 #[.val (.int p1), .val (.int (0 : Int32)), .val (.int (0 : Int32)), .val (.int (1 : Int32)), .val (.int (1 : Int32)), .val (.ref b93), .val (.ref w0), .val (.int (0 : Int32)), .unset, .unset, .unset] [(.int (0 : Int32))]) s₁ (entryFrame m #[(.int p1)] maxLocals) := fun t k => pre104 t (by
              show Steps p.tables e below (T101.setTop (mkF m 92 #[.val (.int p1), .val (.int (0 : Int32)), .val (.int (0 : Int32)), .val (.int (1 : Int32)), .val (.int (1 : Int32)), .val (.ref b93), .val (.ref w0), .unset, .unset, .unset, .unset] [])) t
              refine XS.iconst X101.here hx rfl (hb hby at_92) ?_
              show Steps p.tables e below (T101.setTop (mkF m 93 #[.val (.int p1), .val (.int (0 : Int32)), .val (.int (0 : Int32)), .val (.int (1 : Int32)), .val (.int (1 : Int32)), .val (.ref b93), .val (.ref w0), .unset, .unset, .unset, .unset] [(.int (0 : Int32))])) t
              refine XS.istore X101.here hx rfl (hb hby at_93) rfl (l' := #[.val (.int p1), .val (.int (0 : Int32)), .val (.int (0 : Int32)), .val (.int (1 : Int32)), .val (.int (1 : Int32)), .val (.ref b93), .val (.ref w0), .val (.int (0 : Int32)), .unset, .unset, .unset]) rfl ?_
              show Steps p.tables e below (T101.setTop (mkF m 95 #[.val (.int p1), .val (.int (0 : Int32)), .val (.int (0 : Int32)), .val (.int (1 : Int32)), .val (.int (1 : Int32)), .val (.ref b93), .val (.ref w0), .val (.int (0 : Int32)), .unset, .unset, .unset] [])) t
              refine XS.iloadN X101.here hx rfl (hb hby at_95) rfl ?_
              exact k)
          have pre106 : Go p e below T101 (mkF m 107 #[.val (.int p1), .val (.int (0 : Int32)), .val (.int (0 : Int32)), .val (.int (1 : Int32)), .val (.int (1 : Int32)), .val (.ref b93), .val (.ref w0), .val (.int (0 : Int32)), .unset, .unset, .unset] []) s₁ (entryFrame m #[(.int p1)] maxLocals) := fun t k => pre105 t (XS.ifYes X101.here hx rfl (pc0 := 96) (pc' := 107) rfl (hb hby at_96) rfl ((if0 _ _).trans (teq (by decide : (0 : Int32) = (0 : Int32))).1) (by decide) (by decide) k)
          have pre107 : Go p e below T101 (mkF m 119 #[.val (.int p1), .val (.int (0 : Int32)), .val (.int (0 : Int32)), .val (.int (1 : Int32)), .val (.int (1 : Int32)), .val (.ref b93), .val (.ref w0), .val (.int (0 : Int32)), .val (.int (0 : Int32)), .val (.int (0 : Int32)), .unset] [(.int (0 : Int32))]) s₁ (entryFrame m #[(.int p1)] maxLocals) := fun t k => pre106 t (by
              show Steps p.tables e below (T101.setTop (mkF m 107 #[.val (.int p1), .val (.int (0 : Int32)), .val (.int (0 : Int32)), .val (.int (1 : Int32)), .val (.int (1 : Int32)), .val (.ref b93), .val (.ref w0), .val (.int (0 : Int32)), .unset, .unset, .unset] [])) t
              refine XS.iconst X101.here hx rfl (hb hby at_107) ?_
              show Steps p.tables e below (T101.setTop (mkF m 108 #[.val (.int p1), .val (.int (0 : Int32)), .val (.int (0 : Int32)), .val (.int (1 : Int32)), .val (.int (1 : Int32)), .val (.ref b93), .val (.ref w0), .val (.int (0 : Int32)), .unset, .unset, .unset] [(.int (0 : Int32))])) t
              refine XS.istore X101.here hx rfl (hb hby at_108) rfl (l' := #[.val (.int p1), .val (.int (0 : Int32)), .val (.int (0 : Int32)), .val (.int (1 : Int32)), .val (.int (1 : Int32)), .val (.ref b93), .val (.ref w0), .val (.int (0 : Int32)), .val (.int (0 : Int32)), .unset, .unset]) rfl ?_
              show Steps p.tables e below (T101.setTop (mkF m 110 #[.val (.int p1), .val (.int (0 : Int32)), .val (.int (0 : Int32)), .val (.int (1 : Int32)), .val (.int (1 : Int32)), .val (.ref b93), .val (.ref w0), .val (.int (0 : Int32)), .val (.int (0 : Int32)), .unset, .unset] [])) t
              refine XS.iload X101.here hx rfl (hb hby at_110) rfl ?_
              show Steps p.tables e below (T101.setTop (mkF m 112 #[.val (.int p1), .val (.int (0 : Int32)), .val (.int (0 : Int32)), .val (.int (1 : Int32)), .val (.int (1 : Int32)), .val (.ref b93), .val (.ref w0), .val (.int (0 : Int32)), .val (.int (0 : Int32)), .unset, .unset] [(.int (0 : Int32))])) t
              refine XS.iload X101.here hx rfl (hb hby at_112) rfl ?_
              show Steps p.tables e below (T101.setTop (mkF m 114 #[.val (.int p1), .val (.int (0 : Int32)), .val (.int (0 : Int32)), .val (.int (1 : Int32)), .val (.int (1 : Int32)), .val (.ref b93), .val (.ref w0), .val (.int (0 : Int32)), .val (.int (0 : Int32)), .unset, .unset] [(.int (0 : Int32)), (.int (0 : Int32))])) t
              refine XS.isub X101.here hx rfl (hb hby at_114) rfl ?_
              show Steps p.tables e below (T101.setTop (mkF m 115 #[.val (.int p1), .val (.int (0 : Int32)), .val (.int (0 : Int32)), .val (.int (1 : Int32)), .val (.int (1 : Int32)), .val (.ref b93), .val (.ref w0), .val (.int (0 : Int32)), .val (.int (0 : Int32)), .unset, .unset] [(.int (0 : Int32))])) t
              refine XS.istore X101.here hx rfl (hb hby at_115) rfl (l' := #[.val (.int p1), .val (.int (0 : Int32)), .val (.int (0 : Int32)), .val (.int (1 : Int32)), .val (.int (1 : Int32)), .val (.ref b93), .val (.ref w0), .val (.int (0 : Int32)), .val (.int (0 : Int32)), .val (.int (0 : Int32)), .unset]) rfl ?_
              show Steps p.tables e below (T101.setTop (mkF m 117 #[.val (.int p1), .val (.int (0 : Int32)), .val (.int (0 : Int32)), .val (.int (1 : Int32)), .val (.int (1 : Int32)), .val (.ref b93), .val (.ref w0), .val (.int (0 : Int32)), .val (.int (0 : Int32)), .val (.int (0 : Int32)), .unset] [])) t
              refine XS.iload X101.here hx rfl (hb hby at_117) rfl ?_
              exact k)
          have pre108 : Go p e below T101 (mkF m 130 #[.val (.int p1), .val (.int (0 : Int32)), .val (.int (0 : Int32)), .val (.int (1 : Int32)), .val (.int (1 : Int32)), .val (.ref b93), .val (.ref w0), .val (.int (0 : Int32)), .val (.int (0 : Int32)), .val (.int (0 : Int32)), .unset] []) s₁ (entryFrame m #[(.int p1)] maxLocals) := fun t k => pre107 t (XS.ifYes X101.here hx rfl (pc0 := 119) (pc' := 130) rfl (hb hby at_119) rfl ((if0 _ _).trans (flt (by decide : ¬ ((0 : Int32) < (0 : Int32)))).2.2.2) (by decide) (by decide) k)
          have pre109 : Go p e below T101 (mkF m 132 #[.val (.int p1), .val (.int (0 : Int32)), .val (.int (0 : Int32)), .val (.int (1 : Int32)), .val (.int (1 : Int32)), .val (.ref b93), .val (.ref w0), .val (.int (0 : Int32)), .val (.int (0 : Int32)), .val (.int (0 : Int32)), .unset] [(.int (0 : Int32))]) s₁ (entryFrame m #[(.int p1)] maxLocals) := fun t k => pre108 t (by
              show Steps p.tables e below (T101.setTop (mkF m 130 #[.val (.int p1), .val (.int (0 : Int32)), .val (.int (0 : Int32)), .val (.int (1 : Int32)), .val (.int (1 : Int32)), .val (.ref b93), .val (.ref w0), .val (.int (0 : Int32)), .val (.int (0 : Int32)), .val (.int (0 : Int32)), .unset] [])) t
              refine XS.iload X101.here hx rfl (hb hby at_130) rfl ?_
              exact k)
          have pre110 : Go p e below T101 (mkF m 143 #[.val (.int p1), .val (.int (0 : Int32)), .val (.int (0 : Int32)), .val (.int (1 : Int32)), .val (.int (1 : Int32)), .val (.ref b93), .val (.ref w0), .val (.int (0 : Int32)), .val (.int (0 : Int32)), .val (.int (0 : Int32)), .unset] []) s₁ (entryFrame m #[(.int p1)] maxLocals) := fun t k => pre109 t (XS.ifYes X101.here hx rfl (pc0 := 132) (pc' := 143) rfl (hb hby at_132) rfl ((if0 _ _).trans (flt (by decide : ¬ ((0 : Int32) < (0 : Int32)))).2.1) (by decide) (by decide) k)
          obtain ⟨T111, X111, e111, st111⟩ := getS2 X101 hx hZ hown (host := "") (Or.inl (hw _ (List.mem_of_getElem? (i := 30) rfl))) Via.refl e101 (S0.ext O99.2) (g := (mkF m 143 #[.val (.int p1), .val (.int (0 : Int32)), .val (.int (0 : Int32)), .val (.int (1 : Int32)), .val (.int (1 : Int32)), .val (.ref b93), .val (.ref w0), .val (.int (0 : Int32)), .val (.int (0 : Int32)), .val (.int (0 : Int32)), .unset] [])) rfl (hb hby at_143)
          have pre112 : Go p e below T111 (mkF m 146 #[.val (.int p1), .val (.int (0 : Int32)), .val (.int (0 : Int32)), .val (.int (1 : Int32)), .val (.int (1 : Int32)), .val (.ref b93), .val (.ref w0), .val (.int (0 : Int32)), .val (.int (0 : Int32)), .val (.int (0 : Int32)), .unset] [(.ref w0)]) s₁ (entryFrame m #[(.int p1)] maxLocals) := fun t k => pre110 t (st111 t k)
          have pre113 : Go p e below T111 (mkF m 152 #[.val (.int p1), .val (.int (0 : Int32)), .val (.int (0 : Int32)), .val (.int (1 : Int32)), .val (.int (1 : Int32)), .val (.ref b93), .val (.ref w0), .val (.int (0 : Int32)), .val (.int (0 : Int32)), .val (.int (0 : Int32)), .val (.ref w0)] [(.ref w0), (.ref w0)]) s₁ (entryFrame m #[(.int p1)] maxLocals) := fun t k => pre112 t (by
              show Steps p.tables e below (T111.setTop (mkF m 146 #[.val (.int p1), .val (.int (0 : Int32)), .val (.int (0 : Int32)), .val (.int (1 : Int32)), .val (.int (1 : Int32)), .val (.ref b93), .val (.ref w0), .val (.int (0 : Int32)), .val (.int (0 : Int32)), .val (.int (0 : Int32)), .unset] [(.ref w0)])) t
              refine XS.astore X111.here hx rfl (hb hby at_146) rfl rfl (l' := #[.val (.int p1), .val (.int (0 : Int32)), .val (.int (0 : Int32)), .val (.int (1 : Int32)), .val (.int (1 : Int32)), .val (.ref b93), .val (.ref w0), .val (.int (0 : Int32)), .val (.int (0 : Int32)), .val (.int (0 : Int32)), .val (.ref w0)]) rfl ?_
              show Steps p.tables e below (T111.setTop (mkF m 148 #[.val (.int p1), .val (.int (0 : Int32)), .val (.int (0 : Int32)), .val (.int (1 : Int32)), .val (.int (1 : Int32)), .val (.ref b93), .val (.ref w0), .val (.int (0 : Int32)), .val (.int (0 : Int32)), .val (.int (0 : Int32)), .val (.ref w0)] [])) t
              refine XS.aload X111.here hx rfl (hb hby at_148) rfl rfl ?_
              show Steps p.tables e below (T111.setTop (mkF m 150 #[.val (.int p1), .val (.int (0 : Int32)), .val (.int (0 : Int32)), .val (.int (1 : Int32)), .val (.int (1 : Int32)), .val (.ref b93), .val (.ref w0), .val (.int (0 : Int32)), .val (.int (0 : Int32)), .val (.int (0 : Int32)), .val (.ref w0)] [(.ref w0)])) t
              refine XS.aload X111.here hx rfl (hb hby at_150) rfl rfl ?_
              exact k)
          have pre114 : Go p e below T111 (mkF m 155 #[.val (.int p1), .val (.int (0 : Int32)), .val (.int (0 : Int32)), .val (.int (1 : Int32)), .val (.int (1 : Int32)), .val (.ref b93), .val (.ref w0), .val (.int (0 : Int32)), .val (.int (0 : Int32)), .val (.int (0 : Int32)), .val (.ref w0)] []) s₁ (entryFrame m #[(.int p1)] maxLocals) := fun t k => pre113 t (Jvm.RoadKit.acmp (g := (mkF m 152 #[.val (.int p1), .val (.int (0 : Int32)), .val (.int (0 : Int32)), .val (.int (1 : Int32)), .val (.int (1 : Int32)), .val (.ref b93), .val (.ref w0), .val (.int (0 : Int32)), .val (.int (0 : Int32)), .val (.int (0 : Int32)), .val (.ref w0)] [(.ref w0), (.ref w0)])) X111 hx rfl rfl rfl (pc0 := 152) (pc' := 155) (same := true) rfl (hb hby at_152) rfl (decide_eq_true rfl) (by decide) (by decide) k)
          have pre115 : Go p e below T111 (mkF m 160 #[.val (.int p1), .val (.int (0 : Int32)), .val (.int (0 : Int32)), .val (.int (1 : Int32)), .val (.int (1 : Int32)), .val (.ref b93), .val (.ref w0), .val (.int (0 : Int32)), .val (.int (0 : Int32)), .val (.int (0 : Int32)), .val (.ref w0)] [(.int (1 : Int32))]) s₁ (entryFrame m #[(.int p1)] maxLocals) := fun t k => pre114 t (by
              show Steps p.tables e below (T111.setTop (mkF m 155 #[.val (.int p1), .val (.int (0 : Int32)), .val (.int (0 : Int32)), .val (.int (1 : Int32)), .val (.int (1 : Int32)), .val (.ref b93), .val (.ref w0), .val (.int (0 : Int32)), .val (.int (0 : Int32)), .val (.int (0 : Int32)), .val (.ref w0)] [])) t
              refine XS.iconst X111.here hx rfl (hb hby at_155) ?_
              show Steps p.tables e below (T111.setTop (mkF m 156 #[.val (.int p1), .val (.int (0 : Int32)), .val (.int (0 : Int32)), .val (.int (1 : Int32)), .val (.int (1 : Int32)), .val (.ref b93), .val (.ref w0), .val (.int (0 : Int32)), .val (.int (0 : Int32)), .val (.int (0 : Int32)), .val (.ref w0)] [(.int (1 : Int32))])) t
              refine XS.goto X111.here hx rfl (pc0 := 156) (pc' := 160) rfl (hb hby at_156) (by decide) (by decide) ?_
              exact k)
          have hnr : Value.int (nar .boolean (1 : Int32)) = (.int (1 : Int32)) := by rfl
          obtain ⟨fs, hr, hrun, hended, hW, hsame⟩ := X111.leave (v := some (.int (1 : Int32))) (fun h => by rw [Bd.returns] at h; cases h)
          refine ⟨_, _, pre115 _ (retN X111 hx (t := .boolean) Bd.returns (by simp) (hb hby at_160) (hnr ▸ hr)), hrun, hended, _, _, rfl, ?_, ⟨_, rfl⟩, hW, hsame.mono (by decide) (by decide)⟩
          show QL Z p1 w0 w1 w2 h0 n0 _ T111.heap _
          rw [e111]
          exact ⟨rfl, N101⟩
    · have pre116 : Go p e below s₁ (mkF m 18 #[.val (.int p1), .val (.int (0 : Int32)), .unset, .unset, .unset, .unset, .unset, .unset, .unset, .unset, .unset] []) s₁ (entryFrame m #[(.int p1)] maxLocals) := fun t k => pre3 t (XS.ifNo X0.here hx rfl (hb hby at_15) rfl ((if0 _ _).trans (feq hc15).1) k)
      have pre117 : Go p e below s₁ (mkF m 27 #[.val (.int p1), .val (.int (0 : Int32)), .val (.int (1 : Int32)), .unset, .unset, .unset, .unset, .unset, .unset, .unset, .unset] [(.int (p1 &&& (4 : Int32)))]) s₁ (entryFrame m #[(.int p1)] maxLocals) := fun t k => pre116 t (by
          show Steps p.tables e below (s₁.setTop (mkF m 18 #[.val (.int p1), .val (.int (0 : Int32)), .unset, .unset, .unset, .unset, .unset, .unset, .unset, .unset, .unset] [])) t
          refine XS.iconst X0.here hx rfl (hb hby at_18) ?_
          show Steps p.tables e below (s₁.setTop (mkF m 19 #[.val (.int p1), .val (.int (0 : Int32)), .unset, .unset, .unset, .unset, .unset, .unset, .unset, .unset, .unset] [(.int (1 : Int32))])) t
          refine XS.goto X0.here hx rfl (pc0 := 19) (pc' := 23) rfl (hb hby at_19) (by decide) (by decide) ?_
          show Steps p.tables e below (s₁.setTop (mkF m 23 #[.val (.int p1), .val (.int (0 : Int32)), .unset, .unset, .unset, .unset, .unset, .unset, .unset, .unset, .unset] [(.int (1 : Int32))])) t
          refine XS.istoreN X0.here hx rfl (hb hby at_23) rfl (l' := #[.val (.int p1), .val (.int (0 : Int32)), .val (.int (1 : Int32)), .unset, .unset, .unset, .unset, .unset, .unset, .unset, .unset]) rfl ?_
          show Steps p.tables e below (s₁.setTop (mkF m 24 #[.val (.int p1), .val (.int (0 : Int32)), .val (.int (1 : Int32)), .unset, .unset, .unset, .unset, .unset, .unset, .unset, .unset] [])) t
          refine XS.iloadN X0.here hx rfl (hb hby at_24) rfl ?_
          show Steps p.tables e below (s₁.setTop (mkF m 25 #[.val (.int p1), .val (.int (0 : Int32)), .val (.int (1 : Int32)), .unset, .unset, .unset, .unset, .unset, .unset, .unset, .unset] [(.int p1)])) t
          refine XS.iconst X0.here hx rfl (hb hby at_25) ?_
          show Steps p.tables e below (s₁.setTop (mkF m 26 #[.val (.int p1), .val (.int (0 : Int32)), .val (.int (1 : Int32)), .unset, .unset, .unset, .unset, .unset, .unset, .unset, .unset] [(.int (4 : Int32)), (.int p1)])) t
          refine XS.iand X0.here hx rfl (hb hby at_26) rfl ?_
          exact k)
      by_cases hc27 : (p1 &&& (4 : Int32)) = (0 : Int32)
      · have pre118 : Go p e below s₁ (mkF m 38 #[.val (.int p1), .val (.int (0 : Int32)), .val (.int (1 : Int32)), .unset, .unset, .unset, .unset, .unset, .unset, .unset, .unset] []) s₁ (entryFrame m #[(.int p1)] maxLocals) := fun t k => pre117 t (XS.ifYes X0.here hx rfl (pc0 := 27) (pc' := 38) rfl (hb hby at_27) rfl ((if0 _ _).trans (teq hc27).1) (by decide) (by decide) k)
        have pre119 : Go p e below s₁ (mkF m 44 #[.val (.int p1), .val (.int (0 : Int32)), .val (.int (1 : Int32)), .val (.int (0 : Int32)), .unset, .unset, .unset, .unset, .unset, .unset, .unset] [(.int (p1 &&& (8 : Int32)))]) s₁ (entryFrame m #[(.int p1)] maxLocals) := fun t k => pre118 t (by
            show Steps p.tables e below (s₁.setTop (mkF m 38 #[.val (.int p1), .val (.int (0 : Int32)), .val (.int (1 : Int32)), .unset, .unset, .unset, .unset, .unset, .unset, .unset, .unset] [])) t
            refine XS.iconst X0.here hx rfl (hb hby at_38) ?_
            show Steps p.tables e below (s₁.setTop (mkF m 39 #[.val (.int p1), .val (.int (0 : Int32)), .val (.int (1 : Int32)), .unset, .unset, .unset, .unset, .unset, .unset, .unset, .unset] [(.int (0 : Int32))])) t
            refine XS.istoreN X0.here hx rfl (hb hby at_39) rfl (l' := #[.val (.int p1), .val (.int (0 : Int32)), .val (.int (1 : Int32)), .val (.int (0 : Int32)), .unset, .unset, .unset, .unset, .unset, .unset, .unset]) rfl ?_
            show Steps p.tables e below (s₁.setTop (mkF m 40 #[.val (.int p1), .val (.int (0 : Int32)), .val (.int (1 : Int32)), .val (.int (0 : Int32)), .unset, .unset, .unset, .unset, .unset, .unset, .unset] [])) t
            refine XS.iloadN X0.here hx rfl (hb hby at_40) rfl ?_
            show Steps p.tables e below (s₁.setTop (mkF m 41 #[.val (.int p1), .val (.int (0 : Int32)), .val (.int (1 : Int32)), .val (.int (0 : Int32)), .unset, .unset, .unset, .unset, .unset, .unset, .unset] [(.int p1)])) t
            refine XS.bipush X0.here hx rfl (hb hby at_41) ?_
            show Steps p.tables e below (s₁.setTop (mkF m 43 #[.val (.int p1), .val (.int (0 : Int32)), .val (.int (1 : Int32)), .val (.int (0 : Int32)), .unset, .unset, .unset, .unset, .unset, .unset, .unset] [(.int (8 : Int32)), (.int p1)])) t
            refine XS.iand X0.here hx rfl (hb hby at_43) rfl ?_
            exact k)
        by_cases hc44 : (p1 &&& (8 : Int32)) = (0 : Int32)
        · have pre120 : Go p e below s₁ (mkF m 55 #[.val (.int p1), .val (.int (0 : Int32)), .val (.int (1 : Int32)), .val (.int (0 : Int32)), .unset, .unset, .unset, .unset, .unset, .unset, .unset] []) s₁ (entryFrame m #[(.int p1)] maxLocals) := fun t k => pre119 t (XS.ifYes X0.here hx rfl (pc0 := 44) (pc' := 55) rfl (hb hby at_44) rfl ((if0 _ _).trans (teq hc44).1) (by decide) (by decide) k)
          have pre121 : Go p e below s₁ (mkF m 58 #[.val (.int p1), .val (.int (0 : Int32)), .val (.int (1 : Int32)), .val (.int (0 : Int32)), .val (.int (0 : Int32)), .unset, .unset, .unset, .unset, .unset, .unset] []) s₁ (entryFrame m #[(.int p1)] maxLocals) := fun t k => pre120 t (by
              show Steps p.tables e below (s₁.setTop (mkF m 55 #[.val (.int p1), .val (.int (0 : Int32)), .val (.int (1 : Int32)), .val (.int (0 : Int32)), .unset, .unset, .unset, .unset, .unset, .unset, .unset] [])) t
              refine XS.iconst X0.here hx rfl (hb hby at_55) ?_
              show Steps p.tables e below (s₁.setTop (mkF m 56 #[.val (.int p1), .val (.int (0 : Int32)), .val (.int (1 : Int32)), .val (.int (0 : Int32)), .unset, .unset, .unset, .unset, .unset, .unset, .unset] [(.int (0 : Int32))])) t
              refine XS.istore X0.here hx rfl (hb hby at_56) rfl (l' := #[.val (.int p1), .val (.int (0 : Int32)), .val (.int (1 : Int32)), .val (.int (0 : Int32)), .val (.int (0 : Int32)), .unset, .unset, .unset, .unset, .unset, .unset]) rfl ?_
              exact k)
          obtain ⟨T122, h122, X122, e122, E122, A122, D122, U122, st122⟩ := newO X0 hx hZ hown (hw _ (List.mem_of_getElem? (i := 0) rfl)) (hw _ (List.mem_of_getElem? (i := 1) rfl)) (hw _ (List.mem_of_getElem? (i := 2) rfl)) e0 (g := (mkF m 58 #[.val (.int p1), .val (.int (0 : Int32)), .val (.int (1 : Int32)), .val (.int (0 : Int32)), .val (.int (0 : Int32)), .unset, .unset, .unset, .unset, .unset, .unset] [])) rfl (hb hby at_58) (by decide) (by decide)
          obtain ⟨b122, g122⟩ : ∃ z, z = h0.size := ⟨_, rfl⟩
          rw [← g122] at A122 st122 D122
          have g_b122 : n0 ≤ b122 := Nat.le_trans Z0 (Nat.le_of_eq g122.symm)
          have pre123 : Go p e below T122 (mkF m 61 #[.val (.int p1), .val (.int (0 : Int32)), .val (.int (1 : Int32)), .val (.int (0 : Int32)), .val (.int (0 : Int32)), .unset, .unset, .unset, .unset, .unset, .unset] [(.ref b122)]) s₁ (entryFrame m #[(.int p1)] maxLocals) := fun t k => pre121 t (st122 t k)
          have O124 : Old Z n0 h122 := O0.ext E122
          have Z124 : n0 ≤ h122.size := Nat.le_trans Z0 E122.1
          have F_seesLeft_b122 : Fld Z h122 b122 "com/example/picketline/picketline/protocol/Surroundings" "seesLeft" "Z" (.int (0 : Int32)) := D122 (Or.inr (hw _ (List.mem_of_getElem? (i := 15) rfl))) (ty := .boolean) (by decide)
          have F_seesRight_b122 : Fld Z h122 b122 "com/example/picketline/picketline/protocol/Surroundings" "seesRight" "Z" (.int (0 : Int32)) := D122 (Or.inr (hw _ (List.mem_of_getElem? (i := 17) rfl))) (ty := .boolean) (by decide)
          have F_gapLeft_b122 : Fld Z h122 b122 "com/example/picketline/picketline/protocol/Surroundings" "gapLeft" "Z" (.int (0 : Int32)) := D122 (Or.inr (hw _ (List.mem_of_getElem? (i := 19) rfl))) (ty := .boolean) (by decide)
          have F_gapRight_b122 : Fld Z h122 b122 "com/example/picketline/picketline/protocol/Surroundings" "gapRight" "Z" (.int (0 : Int32)) := D122 (Or.inr (hw _ (List.mem_of_getElem? (i := 21) rfl))) (ty := .boolean) (by decide)
          have pre125 : Go p e below T122 (mkF m 67 #[.val (.int p1), .val (.int (0 : Int32)), .val (.int (1 : Int32)), .val (.int (0 : Int32)), .val (.int (0 : Int32)), .unset, .unset, .unset, .unset, .unset, .unset] [(.int (0 : Int32)), (.int (0 : Int32)), (.int (1 : Int32)), (.int (0 : Int32)), (.ref b122), (.ref b122)]) s₁ (entryFrame m #[(.int p1)] maxLocals) := fun t k => pre123 t (by
              show Steps p.tables e below (T122.setTop (mkF m 61 #[.val (.int p1), .val (.int (0 : Int32)), .val (.int (1 : Int32)), .val (.int (0 : Int32)), .val (.int (0 : Int32)), .unset, .unset, .unset, .unset, .unset, .unset] [(.ref b122)])) t
              refine XS.dup X122.here hx rfl (hb hby at_61) rfl rfl ?_
              show Steps p.tables e below (T122.setTop (mkF m 62 #[.val (.int p1), .val (.int (0 : Int32)), .val (.int (1 : Int32)), .val (.int (0 : Int32)), .val (.int (0 : Int32)), .unset, .unset, .unset, .unset, .unset, .unset] [(.ref b122), (.ref b122)])) t
              refine XS.iloadN X122.here hx rfl (hb hby at_62) rfl ?_
              show Steps p.tables e below (T122.setTop (mkF m 63 #[.val (.int p1), .val (.int (0 : Int32)), .val (.int (1 : Int32)), .val (.int (0 : Int32)), .val (.int (0 : Int32)), .unset, .unset, .unset, .unset, .unset, .unset] [(.int (0 : Int32)), (.ref b122), (.ref b122)])) t
              refine XS.iloadN X122.here hx rfl (hb hby at_63) rfl ?_
              show Steps p.tables e below (T122.setTop (mkF m 64 #[.val (.int p1), .val (.int (0 : Int32)), .val (.int (1 : Int32)), .val (.int (0 : Int32)), .val (.int (0 : Int32)), .unset, .unset, .unset, .unset, .unset, .unset] [(.int (1 : Int32)), (.int (0 : Int32)), (.ref b122), (.ref b122)])) t
              refine XS.iloadN X122.here hx rfl (hb hby at_64) rfl ?_
              show Steps p.tables e below (T122.setTop (mkF m 65 #[.val (.int p1), .val (.int (0 : Int32)), .val (.int (1 : Int32)), .val (.int (0 : Int32)), .val (.int (0 : Int32)), .unset, .unset, .unset, .unset, .unset, .unset] [(.int (0 : Int32)), (.int (1 : Int32)), (.int (0 : Int32)), (.ref b122), (.ref b122)])) t
              refine XS.iload X122.here hx rfl (hb hby at_65) rfl ?_
              exact k)
          obtain ⟨_, _, ⟨T126, L126, k126, n126⟩, -, X126, ⟨Lc126, hQ126, l126, y126, z126⟩, st126⟩ := X122.specialBack hx (y := (⟨"com/example/picketline/picketline/protocol/Surroundings", "<init>", "(ZZZZ)V"⟩ : MethodName)) rfl hown (mvT hZ (hw _ (List.mem_of_getElem? (i := 3) rfl))) (mvT hZ (hw _ (List.mem_of_getElem? (i := 4) rfl))) (mvT hZ (hw _ (List.mem_of_getElem? (i := 5) rfl))) (by decide) (backOf (W := 1) (rmC l Z a0 hw [] b122 (0 : Int32) (1 : Int32) (0 : Int32) (0 : Int32) h122 n0 Z124 A122 g_b122 F_seesLeft_b122 F_seesRight_b122 F_gapLeft_b122 F_gapRight_b122 rfl rfl rfl rfl rfl rfl rfl rfl) hZ (hw _ (List.mem_of_getElem? (i := 5) rfl)) (hw _ (List.mem_of_getElem? (i := 2) rfl)) (by decide) (by decide)) (g := (mkF m 67 #[.val (.int p1), .val (.int (0 : Int32)), .val (.int (1 : Int32)), .val (.int (0 : Int32)), .val (.int (0 : Int32)), .unset, .unset, .unset, .unset, .unset, .unset] [(.int (0 : Int32)), (.int (0 : Int32)), (.int (1 : Int32)), (.int (0 : Int32)), (.ref b122), (.ref b122)])) rfl (by rw [hml]; rfl) (Steps.refl _) (a := b122) (argsL := [(.int (0 : Int32)), (.int (1 : Int32)), (.int (0 : Int32)), (.int (0 : Int32))]) (rest := [(.ref b122)]) (lenOf pdL_0 rfl) rfl (by show 2 * 0 + _ ≤ _; exact Nat.le_of_eq rfl) (hb hby at_67) (fun _ _ => ⟨rfl, e122, (by decide : 1 + 0 ≤ _), (by decide : 4 + 0 ≤ _)⟩)
          dsimp only [Pt.U, Pt.locs, Pt.cells, Pt.slots] at X126 l126 y126 z126 st126 hQ126
          subst l126 y126 z126
          obtain ⟨rfl, N126q, K126, EX126, G0_126, G1_126, G2_126, G3_126⟩ := hQ126
          have N126 := Fr.app N0 N126q
          have pre127 : Go p e below T126 (mkF m 70 #[.val (.int p1), .val (.int (0 : Int32)), .val (.int (1 : Int32)), .val (.int (0 : Int32)), .val (.int (0 : Int32)), .unset, .unset, .unset, .unset, .unset, .unset] [(.ref b122)]) s₁ (entryFrame m #[(.int p1)] maxLocals) := fun t k => pre125 t (st126.trans k)
          have O128 : Old Z n0 T126.heap := O124.keep K126 (allS g_b122 all0)
          have Z128 : n0 ≤ T126.heap.size := Nat.le_trans Z124 K126.1
          have pre129 : Go p e below T126 (mkF m 74 #[.val (.int p1), .val (.int (0 : Int32)), .val (.int (1 : Int32)), .val (.int (0 : Int32)), .val (.int (0 : Int32)), .val (.ref b122), .unset, .unset, .unset, .unset, .unset] [(.ref b122)]) s₁ (entryFrame m #[(.int p1)] maxLocals) := fun t k => pre127 t (by
              show Steps p.tables e below (T126.setTop (mkF m 70 #[.val (.int p1), .val (.int (0 : Int32)), .val (.int (1 : Int32)), .val (.int (0 : Int32)), .val (.int (0 : Int32)), .unset, .unset, .unset, .unset, .unset, .unset] [(.ref b122)])) t
              refine XS.astore X126.here hx rfl (hb hby at_70) rfl rfl (l' := #[.val (.int p1), .val (.int (0 : Int32)), .val (.int (1 : Int32)), .val (.int (0 : Int32)), .val (.int (0 : Int32)), .val (.ref b122), .unset, .unset, .unset, .unset, .unset]) rfl ?_
              show Steps p.tables e below (T126.setTop (mkF m 72 #[.val (.int p1), .val (.int (0 : Int32)), .val (.int (1 : Int32)), .val (.int (0 : Int32)), .val (.int (0 : Int32)), .val (.ref b122), .unset, .unset, .unset, .unset, .unset] [])) t
              refine XS.aload X126.here hx rfl (hb hby at_72) rfl rfl ?_
              exact k)
          obtain ⟨cq130, kq130, q130a, q130b, q130c⟩ := isOf hZ rfl EX126
          obtain ⟨_, _, ⟨T130, L130, k130, n130⟩, -, X130, ⟨Lc130, hQ130, l130, y130, z130⟩, st130⟩ := X126.virtualBack hx (y := (⟨"com/example/picketline/picketline/protocol/Surroundings", "towardGap", "()Lcom/example/picketline/picketline/protocol/Heading;"⟩ : MethodName)) (z := (⟨"com/example/picketline/picketline/protocol/Surroundings", "towardGap", "()Lcom/example/picketline/picketline/protocol/Heading;"⟩ : MethodName)) hown (mvT hZ (hw _ (List.mem_of_getElem? (i := 22) rfl))) (mvT hZ (hw _ (List.mem_of_getElem? (i := 23) rfl))) (notFace_of_selects (args := #[]) (mvT hZ (hw _ (List.mem_of_getElem? (i := 25) rfl)))) (mvT hZ (hw _ (List.mem_of_getElem? (i := 25) rfl))) (mvT hZ (hw _ (List.mem_of_getElem? (i := 24) rfl))) (by decide) (backOf (W := 0) (rmT l Z a0 hw [] b122 (0 : Int32) (1 : Int32) (0 : Int32) (0 : Int32) w0 w1 w2 w0 T126.heap n0 Z128 G0_126 G1_126 G2_126 G3_126 (S0.ext O128.2) (S1.ext O128.2) (S2.ext O128.2) (by simp [towF])) hZ (hw _ (List.mem_of_getElem? (i := 26) rfl)) (hw _ (List.mem_of_getElem? (i := 2) rfl)) (by decide) (by decide)) q130a q130c (g := (mkF m 74 #[.val (.int p1), .val (.int (0 : Int32)), .val (.int (1 : Int32)), .val (.int (0 : Int32)), .val (.int (0 : Int32)), .val (.ref b122), .unset, .unset, .unset, .unset, .unset] [(.ref b122)])) rfl (by rw [hml]; rfl) (Steps.refl _) (argsL := []) (rest := []) (lenOf pdL_1 rfl) rfl (by show 2 * 0 + _ ≤ _; exact Nat.le_of_eq rfl) (hb hby at_74) (fun _ _ => ⟨rfl, rfl, (by decide : 1 + 0 ≤ _), (by decide : 4 + 0 ≤ _)⟩)
          dsimp only [Pt.U, Pt.locs, Pt.cells, Pt.slots] at X130 l130 y130 z130 st130 hQ130
          subst l130 y130 z130
          obtain ⟨rfl, N130q, hq130⟩ := hQ130
          have N130 := Fr.app N126 N130q
          have pre131 : Go p e below T130 (mkF m 77 #[.val (.int p1), .val (.int (0 : Int32)), .val (.int (1 : Int32)), .val (.int (0 : Int32)), .val (.int (0 : Int32)), .val (.ref b122), .unset, .unset, .unset, .unset, .unset] [(.ref w0)]) s₁ (entryFrame m #[(.int p1)] maxLocals) := fun t k => pre129 t (st130.trans k)
          have e130 : T130.heap = T126.heap := hq130
          have pre132 : Go p e below T130 (mkF m 80 #[.val (.int p1), .val (.int (0 : Int32)), .val (.int (1 : Int32)), .val (.int (0 : Int32)), .val (.int (0 : Int32)), .val (.ref b122), .val (.ref w0), .unset, .unset, .unset, .unset] [(.int (0 : Int32))]) s₁ (entryFrame m #[(.int p1)] maxLocals) := fun t k => pre131 t (by
              show Steps p.tables e below (T130.setTop (mkF m 77 #[.val (.int p1), .val (.int (0 : Int32)), .val (.int (1 : Int32)), .val (.int (0 : Int32)), .val (.int (0 : Int32)), .val (.ref b122), .unset, .unset, .unset, .unset, .unset] [(.ref w0)])) t
              refine XS.astore X130.here hx rfl (hb hby at_77) rfl rfl (l' := #[.val (.int p1), .val (.int (0 : Int32)), .val (.int (1 : Int32)), .val (.int (0 : Int32)), .val (.int (0 : Int32)), .val (.ref b122), .val (.ref w0), .unset, .unset, .unset, .unset]) rfl ?_
              show Steps p.tables e below (T130.setTop (mkF m 79 #[.val (.int p1), .val (.int (0 : Int32)), .val (.int (1 : Int32)), .val (.int (0 : Int32)), .val (.int (0 : Int32)), .val (.ref b122), .val (.ref w0), .unset, .unset, .unset, .unset] [])) t
              refine XS.iloadN X130.here hx rfl (hb hby at_79) rfl ?_
              exact k)
          have pre133 : Go p e below T130 (mkF m 92 #[.val (.int p1), .val (.int (0 : Int32)), .val (.int (1 : Int32)), .val (.int (0 : Int32)), .val (.int (0 : Int32)), .val (.ref b122), .val (.ref w0), .unset, .unset, .unset, .unset] []) s₁ (entryFrame m #[(.int p1)] maxLocals) := fun t k => pre132 t (XS.ifYes X130.here hx rfl (pc0 := 80) (pc' := 92) rfl (hb hby at_80) rfl ((if0 _ _).trans (teq (by decide : (0 : Int32) = (0 : Int32))).1) (by decide) (by decide) k)
          have pre134 : Go p e below T130 (mkF m 96 #[.val (.int p1), .val (.int (0 : Int32)), .val (.int (1 : Int32)), .val (.int (0 : Int32)), .val (.int (0 : Int32)), .val (.ref b122), .val (.ref w0), .val (.int (0 : Int32)), .unset, .unset, .unset] [(.int (1 : Int32))]) s₁ (entryFrame m #[(.int p1)] maxLocals) := fun t k => pre133 t (by
              show Steps p.tables e below (T130.setTop (mkF m 92 #[.val (.int p1), .val (.int (0 : Int32)), .val (.int (1 : Int32)), .val (.int (0 : Int32)), .val (.int (0 : Int32)), .val (.ref b122), .val (.ref w0), .unset, .unset, .unset, .unset] [])) t
              refine XS.iconst X130.here hx rfl (hb hby at_92) ?_
              show Steps p.tables e below (T130.setTop (mkF m 93 #[.val (.int p1), .val (.int (0 : Int32)), .val (.int (1 : Int32)), .val (.int (0 : Int32)), .val (.int (0 : Int32)), .val (.ref b122), .val (.ref w0), .unset, .unset, .unset, .unset] [(.int (0 : Int32))])) t
              refine XS.istore X130.here hx rfl (hb hby at_93) rfl (l' := #[.val (.int p1), .val (.int (0 : Int32)), .val (.int (1 : Int32)), .val (.int (0 : Int32)), .val (.int (0 : Int32)), .val (.ref b122), .val (.ref w0), .val (.int (0 : Int32)), .unset, .unset, .unset]) rfl ?_
              show Steps p.tables e below (T130.setTop (mkF m 95 #[.val (.int p1), .val (.int (0 : Int32)), .val (.int (1 : Int32)), .val (.int (0 : Int32)), .val (.int (0 : Int32)), .val (.ref b122), .val (.ref w0), .val (.int (0 : Int32)), .unset, .unset, .unset] [])) t
              refine XS.iloadN X130.here hx rfl (hb hby at_95) rfl ?_
              exact k)
          have pre135 : Go p e below T130 (mkF m 99 #[.val (.int p1), .val (.int (0 : Int32)), .val (.int (1 : Int32)), .val (.int (0 : Int32)), .val (.int (0 : Int32)), .val (.ref b122), .val (.ref w0), .val (.int (0 : Int32)), .unset, .unset, .unset] []) s₁ (entryFrame m #[(.int p1)] maxLocals) := fun t k => pre134 t (XS.ifNo X130.here hx rfl (hb hby at_96) rfl ((if0 _ _).trans (feq (by decide : ¬ ((1 : Int32) = (0 : Int32)))).1) k)
          have pre136 : Go p e below T130 (mkF m 100 #[.val (.int p1), .val (.int (0 : Int32)), .val (.int (1 : Int32)), .val (.int (0 : Int32)), .val (.int (0 : Int32)), .val (.ref b122), .val (.ref w0), .val (.int (0 : Int32)), .unset, .unset, .unset] [(.int (0 : Int32))]) s₁ (entryFrame m #[(.int p1)] maxLocals) := fun t k => pre135 t (by
              show Steps p.tables e below (T130.setTop (mkF m 99 #[.val (.int p1), .val (.int (0 : Int32)), .val (.int (1 : Int32)), .val (.int (0 : Int32)), .val (.int (0 : Int32)), .val (.ref b122), .val (.ref w0), .val (.int (0 : Int32)), .unset, .unset, .unset] [])) t
              refine XS.iloadN X130.here hx rfl (hb hby at_99) rfl ?_
              exact k)
          have pre137 : Go p e below T130 (mkF m 107 #[.val (.int p1), .val (.int (0 : Int32)), .val (.int (1 : Int32)), .val (.int (0 : Int32)), .val (.int (0 : Int32)), .val (.ref b122), .val (.ref w0), .val (.int (0 : Int32)), .unset, .unset, .unset] []) s₁ (entryFrame m #[(.int p1)] maxLocals) := fun t k => pre136 t (XS.ifYes X130.here hx rfl (pc0 := 100) (pc' := 107) rfl (hb hby at_100) rfl ((if0 _ _).trans (teq (by decide : (0 : Int32) = (0 : Int32))).1) (by decide) (by decide) k)
          have pre138 : Go p e below T130 (mkF m 119 #[.val (.int p1), .val (.int (0 : Int32)), .val (.int (1 : Int32)), .val (.int (0 : Int32)), .val (.int (0 : Int32)), .val (.ref b122), .val (.ref w0), .val (.int (0 : Int32)), .val (.int (0 : Int32)), .val (.int (0 : Int32)), .unset] [(.int (0 : Int32))]) s₁ (entryFrame m #[(.int p1)] maxLocals) := fun t k => pre137 t (by
              show Steps p.tables e below (T130.setTop (mkF m 107 #[.val (.int p1), .val (.int (0 : Int32)), .val (.int (1 : Int32)), .val (.int (0 : Int32)), .val (.int (0 : Int32)), .val (.ref b122), .val (.ref w0), .val (.int (0 : Int32)), .unset, .unset, .unset] [])) t
              refine XS.iconst X130.here hx rfl (hb hby at_107) ?_
              show Steps p.tables e below (T130.setTop (mkF m 108 #[.val (.int p1), .val (.int (0 : Int32)), .val (.int (1 : Int32)), .val (.int (0 : Int32)), .val (.int (0 : Int32)), .val (.ref b122), .val (.ref w0), .val (.int (0 : Int32)), .unset, .unset, .unset] [(.int (0 : Int32))])) t
              refine XS.istore X130.here hx rfl (hb hby at_108) rfl (l' := #[.val (.int p1), .val (.int (0 : Int32)), .val (.int (1 : Int32)), .val (.int (0 : Int32)), .val (.int (0 : Int32)), .val (.ref b122), .val (.ref w0), .val (.int (0 : Int32)), .val (.int (0 : Int32)), .unset, .unset]) rfl ?_
              show Steps p.tables e below (T130.setTop (mkF m 110 #[.val (.int p1), .val (.int (0 : Int32)), .val (.int (1 : Int32)), .val (.int (0 : Int32)), .val (.int (0 : Int32)), .val (.ref b122), .val (.ref w0), .val (.int (0 : Int32)), .val (.int (0 : Int32)), .unset, .unset] [])) t
              refine XS.iload X130.here hx rfl (hb hby at_110) rfl ?_
              show Steps p.tables e below (T130.setTop (mkF m 112 #[.val (.int p1), .val (.int (0 : Int32)), .val (.int (1 : Int32)), .val (.int (0 : Int32)), .val (.int (0 : Int32)), .val (.ref b122), .val (.ref w0), .val (.int (0 : Int32)), .val (.int (0 : Int32)), .unset, .unset] [(.int (0 : Int32))])) t
              refine XS.iload X130.here hx rfl (hb hby at_112) rfl ?_
              show Steps p.tables e below (T130.setTop (mkF m 114 #[.val (.int p1), .val (.int (0 : Int32)), .val (.int (1 : Int32)), .val (.int (0 : Int32)), .val (.int (0 : Int32)), .val (.ref b122), .val (.ref w0), .val (.int (0 : Int32)), .val (.int (0 : Int32)), .unset, .unset] [(.int (0 : Int32)), (.int (0 : Int32))])) t
              refine XS.isub X130.here hx rfl (hb hby at_114) rfl ?_
              show Steps p.tables e below (T130.setTop (mkF m 115 #[.val (.int p1), .val (.int (0 : Int32)), .val (.int (1 : Int32)), .val (.int (0 : Int32)), .val (.int (0 : Int32)), .val (.ref b122), .val (.ref w0), .val (.int (0 : Int32)), .val (.int (0 : Int32)), .unset, .unset] [(.int (0 : Int32))])) t
              refine XS.istore X130.here hx rfl (hb hby at_115) rfl (l' := #[.val (.int p1), .val (.int (0 : Int32)), .val (.int (1 : Int32)), .val (.int (0 : Int32)), .val (.int (0 : Int32)), .val (.ref b122), .val (.ref w0), .val (.int (0 : Int32)), .val (.int (0 : Int32)), .val (.int (0 : Int32)), .unset]) rfl ?_
              show Steps p.tables e below (T130.setTop (mkF m 117 #[.val (.int p1), .val (.int (0 : Int32)), .val (.int (1 : Int32)), .val (.int (0 : Int32)), .val (.int (0 : Int32)), .val (.ref b122), .val (.ref w0), .val (.int (0 : Int32)), .val (.int (0 : Int32)), .val (.int (0 : Int32)), .unset] [])) t
              refine XS.iload X130.here hx rfl (hb hby at_117) rfl ?_
              exact k)
          have pre139 : Go p e below T130 (mkF m 130 #[.val (.int p1), .val (.int (0 : Int32)), .val (.int (1 : Int32)), .val (.int (0 : Int32)), .val (.int (0 : Int32)), .val (.ref b122), .val (.ref w0), .val (.int (0 : Int32)), .val (.int (0 : Int32)), .val (.int (0 : Int32)), .unset] []) s₁ (entryFrame m #[(.int p1)] maxLocals) := fun t k => pre138 t (XS.ifYes X130.here hx rfl (pc0 := 119) (pc' := 130) rfl (hb hby at_119) rfl ((if0 _ _).trans (flt (by decide : ¬ ((0 : Int32) < (0 : Int32)))).2.2.2) (by decide) (by decide) k)
          have pre140 : Go p e below T130 (mkF m 132 #[.val (.int p1), .val (.int (0 : Int32)), .val (.int (1 : Int32)), .val (.int (0 : Int32)), .val (.int (0 : Int32)), .val (.ref b122), .val (.ref w0), .val (.int (0 : Int32)), .val (.int (0 : Int32)), .val (.int (0 : Int32)), .unset] [(.int (0 : Int32))]) s₁ (entryFrame m #[(.int p1)] maxLocals) := fun t k => pre139 t (by
              show Steps p.tables e below (T130.setTop (mkF m 130 #[.val (.int p1), .val (.int (0 : Int32)), .val (.int (1 : Int32)), .val (.int (0 : Int32)), .val (.int (0 : Int32)), .val (.ref b122), .val (.ref w0), .val (.int (0 : Int32)), .val (.int (0 : Int32)), .val (.int (0 : Int32)), .unset] [])) t
              refine XS.iload X130.here hx rfl (hb hby at_130) rfl ?_
              exact k)
          have pre141 : Go p e below T130 (mkF m 143 #[.val (.int p1), .val (.int (0 : Int32)), .val (.int (1 : Int32)), .val (.int (0 : Int32)), .val (.int (0 : Int32)), .val (.ref b122), .val (.ref w0), .val (.int (0 : Int32)), .val (.int (0 : Int32)), .val (.int (0 : Int32)), .unset] []) s₁ (entryFrame m #[(.int p1)] maxLocals) := fun t k => pre140 t (XS.ifYes X130.here hx rfl (pc0 := 132) (pc' := 143) rfl (hb hby at_132) rfl ((if0 _ _).trans (flt (by decide : ¬ ((0 : Int32) < (0 : Int32)))).2.1) (by decide) (by decide) k)
          obtain ⟨T142, X142, e142, st142⟩ := getS2 X130 hx hZ hown (host := "") (Or.inl (hw _ (List.mem_of_getElem? (i := 30) rfl))) Via.refl e130 (S0.ext O128.2) (g := (mkF m 143 #[.val (.int p1), .val (.int (0 : Int32)), .val (.int (1 : Int32)), .val (.int (0 : Int32)), .val (.int (0 : Int32)), .val (.ref b122), .val (.ref w0), .val (.int (0 : Int32)), .val (.int (0 : Int32)), .val (.int (0 : Int32)), .unset] [])) rfl (hb hby at_143)
          have pre143 : Go p e below T142 (mkF m 146 #[.val (.int p1), .val (.int (0 : Int32)), .val (.int (1 : Int32)), .val (.int (0 : Int32)), .val (.int (0 : Int32)), .val (.ref b122), .val (.ref w0), .val (.int (0 : Int32)), .val (.int (0 : Int32)), .val (.int (0 : Int32)), .unset] [(.ref w0)]) s₁ (entryFrame m #[(.int p1)] maxLocals) := fun t k => pre141 t (st142 t k)
          have pre144 : Go p e below T142 (mkF m 152 #[.val (.int p1), .val (.int (0 : Int32)), .val (.int (1 : Int32)), .val (.int (0 : Int32)), .val (.int (0 : Int32)), .val (.ref b122), .val (.ref w0), .val (.int (0 : Int32)), .val (.int (0 : Int32)), .val (.int (0 : Int32)), .val (.ref w0)] [(.ref w0), (.ref w0)]) s₁ (entryFrame m #[(.int p1)] maxLocals) := fun t k => pre143 t (by
              show Steps p.tables e below (T142.setTop (mkF m 146 #[.val (.int p1), .val (.int (0 : Int32)), .val (.int (1 : Int32)), .val (.int (0 : Int32)), .val (.int (0 : Int32)), .val (.ref b122), .val (.ref w0), .val (.int (0 : Int32)), .val (.int (0 : Int32)), .val (.int (0 : Int32)), .unset] [(.ref w0)])) t
              refine XS.astore X142.here hx rfl (hb hby at_146) rfl rfl (l' := #[.val (.int p1), .val (.int (0 : Int32)), .val (.int (1 : Int32)), .val (.int (0 : Int32)), .val (.int (0 : Int32)), .val (.ref b122), .val (.ref w0), .val (.int (0 : Int32)), .val (.int (0 : Int32)), .val (.int (0 : Int32)), .val (.ref w0)]) rfl ?_
              show Steps p.tables e below (T142.setTop (mkF m 148 #[.val (.int p1), .val (.int (0 : Int32)), .val (.int (1 : Int32)), .val (.int (0 : Int32)), .val (.int (0 : Int32)), .val (.ref b122), .val (.ref w0), .val (.int (0 : Int32)), .val (.int (0 : Int32)), .val (.int (0 : Int32)), .val (.ref w0)] [])) t
              refine XS.aload X142.here hx rfl (hb hby at_148) rfl rfl ?_
              show Steps p.tables e below (T142.setTop (mkF m 150 #[.val (.int p1), .val (.int (0 : Int32)), .val (.int (1 : Int32)), .val (.int (0 : Int32)), .val (.int (0 : Int32)), .val (.ref b122), .val (.ref w0), .val (.int (0 : Int32)), .val (.int (0 : Int32)), .val (.int (0 : Int32)), .val (.ref w0)] [(.ref w0)])) t
              refine XS.aload X142.here hx rfl (hb hby at_150) rfl rfl ?_
              exact k)
          have pre145 : Go p e below T142 (mkF m 155 #[.val (.int p1), .val (.int (0 : Int32)), .val (.int (1 : Int32)), .val (.int (0 : Int32)), .val (.int (0 : Int32)), .val (.ref b122), .val (.ref w0), .val (.int (0 : Int32)), .val (.int (0 : Int32)), .val (.int (0 : Int32)), .val (.ref w0)] []) s₁ (entryFrame m #[(.int p1)] maxLocals) := fun t k => pre144 t (Jvm.RoadKit.acmp (g := (mkF m 152 #[.val (.int p1), .val (.int (0 : Int32)), .val (.int (1 : Int32)), .val (.int (0 : Int32)), .val (.int (0 : Int32)), .val (.ref b122), .val (.ref w0), .val (.int (0 : Int32)), .val (.int (0 : Int32)), .val (.int (0 : Int32)), .val (.ref w0)] [(.ref w0), (.ref w0)])) X142 hx rfl rfl rfl (pc0 := 152) (pc' := 155) (same := true) rfl (hb hby at_152) rfl (decide_eq_true rfl) (by decide) (by decide) k)
          have pre146 : Go p e below T142 (mkF m 160 #[.val (.int p1), .val (.int (0 : Int32)), .val (.int (1 : Int32)), .val (.int (0 : Int32)), .val (.int (0 : Int32)), .val (.ref b122), .val (.ref w0), .val (.int (0 : Int32)), .val (.int (0 : Int32)), .val (.int (0 : Int32)), .val (.ref w0)] [(.int (1 : Int32))]) s₁ (entryFrame m #[(.int p1)] maxLocals) := fun t k => pre145 t (by
              show Steps p.tables e below (T142.setTop (mkF m 155 #[.val (.int p1), .val (.int (0 : Int32)), .val (.int (1 : Int32)), .val (.int (0 : Int32)), .val (.int (0 : Int32)), .val (.ref b122), .val (.ref w0), .val (.int (0 : Int32)), .val (.int (0 : Int32)), .val (.int (0 : Int32)), .val (.ref w0)] [])) t
              refine XS.iconst X142.here hx rfl (hb hby at_155) ?_
              show Steps p.tables e below (T142.setTop (mkF m 156 #[.val (.int p1), .val (.int (0 : Int32)), .val (.int (1 : Int32)), .val (.int (0 : Int32)), .val (.int (0 : Int32)), .val (.ref b122), .val (.ref w0), .val (.int (0 : Int32)), .val (.int (0 : Int32)), .val (.int (0 : Int32)), .val (.ref w0)] [(.int (1 : Int32))])) t
              refine XS.goto X142.here hx rfl (pc0 := 156) (pc' := 160) rfl (hb hby at_156) (by decide) (by decide) ?_
              exact k)
          have hnr : Value.int (nar .boolean (1 : Int32)) = (.int (1 : Int32)) := by rfl
          obtain ⟨fs, hr, hrun, hended, hW, hsame⟩ := X142.leave (v := some (.int (1 : Int32))) (fun h => by rw [Bd.returns] at h; cases h)
          refine ⟨_, _, pre146 _ (retN X142 hx (t := .boolean) Bd.returns (by simp) (hb hby at_160) (hnr ▸ hr)), hrun, hended, _, _, rfl, ?_, ⟨_, rfl⟩, hW, hsame.mono (by decide) (by decide)⟩
          show QL Z p1 w0 w1 w2 h0 n0 _ T142.heap _
          rw [e142]
          exact ⟨rfl, N130⟩
        · have pre147 : Go p e below s₁ (mkF m 47 #[.val (.int p1), .val (.int (0 : Int32)), .val (.int (1 : Int32)), .val (.int (0 : Int32)), .unset, .unset, .unset, .unset, .unset, .unset, .unset] []) s₁ (entryFrame m #[(.int p1)] maxLocals) := fun t k => pre119 t (XS.ifNo X0.here hx rfl (hb hby at_44) rfl ((if0 _ _).trans (feq hc44).1) k)
          have pre148 : Go p e below s₁ (mkF m 48 #[.val (.int p1), .val (.int (0 : Int32)), .val (.int (1 : Int32)), .val (.int (0 : Int32)), .unset, .unset, .unset, .unset, .unset, .unset, .unset] [(.int (1 : Int32))]) s₁ (entryFrame m #[(.int p1)] maxLocals) := fun t k => pre147 t (by
              show Steps p.tables e below (s₁.setTop (mkF m 47 #[.val (.int p1), .val (.int (0 : Int32)), .val (.int (1 : Int32)), .val (.int (0 : Int32)), .unset, .unset, .unset, .unset, .unset, .unset, .unset] [])) t
              refine XS.iloadN X0.here hx rfl (hb hby at_47) rfl ?_
              exact k)
          have pre149 : Go p e below s₁ (mkF m 55 #[.val (.int p1), .val (.int (0 : Int32)), .val (.int (1 : Int32)), .val (.int (0 : Int32)), .unset, .unset, .unset, .unset, .unset, .unset, .unset] []) s₁ (entryFrame m #[(.int p1)] maxLocals) := fun t k => pre148 t (XS.ifYes X0.here hx rfl (pc0 := 48) (pc' := 55) rfl (hb hby at_48) rfl ((if0 _ _).trans (feq (by decide : ¬ ((1 : Int32) = (0 : Int32)))).2) (by decide) (by decide) k)
          have pre150 : Go p e below s₁ (mkF m 58 #[.val (.int p1), .val (.int (0 : Int32)), .val (.int (1 : Int32)), .val (.int (0 : Int32)), .val (.int (0 : Int32)), .unset, .unset, .unset, .unset, .unset, .unset] []) s₁ (entryFrame m #[(.int p1)] maxLocals) := fun t k => pre149 t (by
              show Steps p.tables e below (s₁.setTop (mkF m 55 #[.val (.int p1), .val (.int (0 : Int32)), .val (.int (1 : Int32)), .val (.int (0 : Int32)), .unset, .unset, .unset, .unset, .unset, .unset, .unset] [])) t
              refine XS.iconst X0.here hx rfl (hb hby at_55) ?_
              show Steps p.tables e below (s₁.setTop (mkF m 56 #[.val (.int p1), .val (.int (0 : Int32)), .val (.int (1 : Int32)), .val (.int (0 : Int32)), .unset, .unset, .unset, .unset, .unset, .unset, .unset] [(.int (0 : Int32))])) t
              refine XS.istore X0.here hx rfl (hb hby at_56) rfl (l' := #[.val (.int p1), .val (.int (0 : Int32)), .val (.int (1 : Int32)), .val (.int (0 : Int32)), .val (.int (0 : Int32)), .unset, .unset, .unset, .unset, .unset, .unset]) rfl ?_
              exact k)
          obtain ⟨T151, h151, X151, e151, E151, A151, D151, U151, st151⟩ := newO X0 hx hZ hown (hw _ (List.mem_of_getElem? (i := 0) rfl)) (hw _ (List.mem_of_getElem? (i := 1) rfl)) (hw _ (List.mem_of_getElem? (i := 2) rfl)) e0 (g := (mkF m 58 #[.val (.int p1), .val (.int (0 : Int32)), .val (.int (1 : Int32)), .val (.int (0 : Int32)), .val (.int (0 : Int32)), .unset, .unset, .unset, .unset, .unset, .unset] [])) rfl (hb hby at_58) (by decide) (by decide)
          obtain ⟨b151, g151⟩ : ∃ z, z = h0.size := ⟨_, rfl⟩
          rw [← g151] at A151 st151 D151
          have g_b151 : n0 ≤ b151 := Nat.le_trans Z0 (Nat.le_of_eq g151.symm)
          have pre152 : Go p e below T151 (mkF m 61 #[.val (.int p1), .val (.int (0 : Int32)), .val (.int (1 : Int32)), .val (.int (0 : Int32)), .val (.int (0 : Int32)), .unset, .unset, .unset, .unset, .unset, .unset] [(.ref b151)]) s₁ (entryFrame m #[(.int p1)] maxLocals) := fun t k => pre150 t (st151 t k)
          have O153 : Old Z n0 h151 := O0.ext E151
          have Z153 : n0 ≤ h151.size := Nat.le_trans Z0 E151.1
          have F_seesLeft_b151 : Fld Z h151 b151 "com/example/picketline/picketline/protocol/Surroundings" "seesLeft" "Z" (.int (0 : Int32)) := D151 (Or.inr (hw _ (List.mem_of_getElem? (i := 15) rfl))) (ty := .boolean) (by decide)
          have F_seesRight_b151 : Fld Z h151 b151 "com/example/picketline/picketline/protocol/Surroundings" "seesRight" "Z" (.int (0 : Int32)) := D151 (Or.inr (hw _ (List.mem_of_getElem? (i := 17) rfl))) (ty := .boolean) (by decide)
          have F_gapLeft_b151 : Fld Z h151 b151 "com/example/picketline/picketline/protocol/Surroundings" "gapLeft" "Z" (.int (0 : Int32)) := D151 (Or.inr (hw _ (List.mem_of_getElem? (i := 19) rfl))) (ty := .boolean) (by decide)
          have F_gapRight_b151 : Fld Z h151 b151 "com/example/picketline/picketline/protocol/Surroundings" "gapRight" "Z" (.int (0 : Int32)) := D151 (Or.inr (hw _ (List.mem_of_getElem? (i := 21) rfl))) (ty := .boolean) (by decide)
          have pre154 : Go p e below T151 (mkF m 67 #[.val (.int p1), .val (.int (0 : Int32)), .val (.int (1 : Int32)), .val (.int (0 : Int32)), .val (.int (0 : Int32)), .unset, .unset, .unset, .unset, .unset, .unset] [(.int (0 : Int32)), (.int (0 : Int32)), (.int (1 : Int32)), (.int (0 : Int32)), (.ref b151), (.ref b151)]) s₁ (entryFrame m #[(.int p1)] maxLocals) := fun t k => pre152 t (by
              show Steps p.tables e below (T151.setTop (mkF m 61 #[.val (.int p1), .val (.int (0 : Int32)), .val (.int (1 : Int32)), .val (.int (0 : Int32)), .val (.int (0 : Int32)), .unset, .unset, .unset, .unset, .unset, .unset] [(.ref b151)])) t
              refine XS.dup X151.here hx rfl (hb hby at_61) rfl rfl ?_
              show Steps p.tables e below (T151.setTop (mkF m 62 #[.val (.int p1), .val (.int (0 : Int32)), .val (.int (1 : Int32)), .val (.int (0 : Int32)), .val (.int (0 : Int32)), .unset, .unset, .unset, .unset, .unset, .unset] [(.ref b151), (.ref b151)])) t
              refine XS.iloadN X151.here hx rfl (hb hby at_62) rfl ?_
              show Steps p.tables e below (T151.setTop (mkF m 63 #[.val (.int p1), .val (.int (0 : Int32)), .val (.int (1 : Int32)), .val (.int (0 : Int32)), .val (.int (0 : Int32)), .unset, .unset, .unset, .unset, .unset, .unset] [(.int (0 : Int32)), (.ref b151), (.ref b151)])) t
              refine XS.iloadN X151.here hx rfl (hb hby at_63) rfl ?_
              show Steps p.tables e below (T151.setTop (mkF m 64 #[.val (.int p1), .val (.int (0 : Int32)), .val (.int (1 : Int32)), .val (.int (0 : Int32)), .val (.int (0 : Int32)), .unset, .unset, .unset, .unset, .unset, .unset] [(.int (1 : Int32)), (.int (0 : Int32)), (.ref b151), (.ref b151)])) t
              refine XS.iloadN X151.here hx rfl (hb hby at_64) rfl ?_
              show Steps p.tables e below (T151.setTop (mkF m 65 #[.val (.int p1), .val (.int (0 : Int32)), .val (.int (1 : Int32)), .val (.int (0 : Int32)), .val (.int (0 : Int32)), .unset, .unset, .unset, .unset, .unset, .unset] [(.int (0 : Int32)), (.int (1 : Int32)), (.int (0 : Int32)), (.ref b151), (.ref b151)])) t
              refine XS.iload X151.here hx rfl (hb hby at_65) rfl ?_
              exact k)
          obtain ⟨_, _, ⟨T155, L155, k155, n155⟩, -, X155, ⟨Lc155, hQ155, l155, y155, z155⟩, st155⟩ := X151.specialBack hx (y := (⟨"com/example/picketline/picketline/protocol/Surroundings", "<init>", "(ZZZZ)V"⟩ : MethodName)) rfl hown (mvT hZ (hw _ (List.mem_of_getElem? (i := 3) rfl))) (mvT hZ (hw _ (List.mem_of_getElem? (i := 4) rfl))) (mvT hZ (hw _ (List.mem_of_getElem? (i := 5) rfl))) (by decide) (backOf (W := 1) (rmC l Z a0 hw [] b151 (0 : Int32) (1 : Int32) (0 : Int32) (0 : Int32) h151 n0 Z153 A151 g_b151 F_seesLeft_b151 F_seesRight_b151 F_gapLeft_b151 F_gapRight_b151 rfl rfl rfl rfl rfl rfl rfl rfl) hZ (hw _ (List.mem_of_getElem? (i := 5) rfl)) (hw _ (List.mem_of_getElem? (i := 2) rfl)) (by decide) (by decide)) (g := (mkF m 67 #[.val (.int p1), .val (.int (0 : Int32)), .val (.int (1 : Int32)), .val (.int (0 : Int32)), .val (.int (0 : Int32)), .unset, .unset, .unset, .unset, .unset, .unset] [(.int (0 : Int32)), (.int (0 : Int32)), (.int (1 : Int32)), (.int (0 : Int32)), (.ref b151), (.ref b151)])) rfl (by rw [hml]; rfl) (Steps.refl _) (a := b151) (argsL := [(.int (0 : Int32)), (.int (1 : Int32)), (.int (0 : Int32)), (.int (0 : Int32))]) (rest := [(.ref b151)]) (lenOf pdL_0 rfl) rfl (by show 2 * 0 + _ ≤ _; exact Nat.le_of_eq rfl) (hb hby at_67) (fun _ _ => ⟨rfl, e151, (by decide : 1 + 0 ≤ _), (by decide : 4 + 0 ≤ _)⟩)
          dsimp only [Pt.U, Pt.locs, Pt.cells, Pt.slots] at X155 l155 y155 z155 st155 hQ155
          subst l155 y155 z155
          obtain ⟨rfl, N155q, K155, EX155, G0_155, G1_155, G2_155, G3_155⟩ := hQ155
          have N155 := Fr.app N0 N155q
          have pre156 : Go p e below T155 (mkF m 70 #[.val (.int p1), .val (.int (0 : Int32)), .val (.int (1 : Int32)), .val (.int (0 : Int32)), .val (.int (0 : Int32)), .unset, .unset, .unset, .unset, .unset, .unset] [(.ref b151)]) s₁ (entryFrame m #[(.int p1)] maxLocals) := fun t k => pre154 t (st155.trans k)
          have O157 : Old Z n0 T155.heap := O153.keep K155 (allS g_b151 all0)
          have Z157 : n0 ≤ T155.heap.size := Nat.le_trans Z153 K155.1
          have pre158 : Go p e below T155 (mkF m 74 #[.val (.int p1), .val (.int (0 : Int32)), .val (.int (1 : Int32)), .val (.int (0 : Int32)), .val (.int (0 : Int32)), .val (.ref b151), .unset, .unset, .unset, .unset, .unset] [(.ref b151)]) s₁ (entryFrame m #[(.int p1)] maxLocals) := fun t k => pre156 t (by
              show Steps p.tables e below (T155.setTop (mkF m 70 #[.val (.int p1), .val (.int (0 : Int32)), .val (.int (1 : Int32)), .val (.int (0 : Int32)), .val (.int (0 : Int32)), .unset, .unset, .unset, .unset, .unset, .unset] [(.ref b151)])) t
              refine XS.astore X155.here hx rfl (hb hby at_70) rfl rfl (l' := #[.val (.int p1), .val (.int (0 : Int32)), .val (.int (1 : Int32)), .val (.int (0 : Int32)), .val (.int (0 : Int32)), .val (.ref b151), .unset, .unset, .unset, .unset, .unset]) rfl ?_
              show Steps p.tables e below (T155.setTop (mkF m 72 #[.val (.int p1), .val (.int (0 : Int32)), .val (.int (1 : Int32)), .val (.int (0 : Int32)), .val (.int (0 : Int32)), .val (.ref b151), .unset, .unset, .unset, .unset, .unset] [])) t
              refine XS.aload X155.here hx rfl (hb hby at_72) rfl rfl ?_
              exact k)
          obtain ⟨cq159, kq159, q159a, q159b, q159c⟩ := isOf hZ rfl EX155
          obtain ⟨_, _, ⟨T159, L159, k159, n159⟩, -, X159, ⟨Lc159, hQ159, l159, y159, z159⟩, st159⟩ := X155.virtualBack hx (y := (⟨"com/example/picketline/picketline/protocol/Surroundings", "towardGap", "()Lcom/example/picketline/picketline/protocol/Heading;"⟩ : MethodName)) (z := (⟨"com/example/picketline/picketline/protocol/Surroundings", "towardGap", "()Lcom/example/picketline/picketline/protocol/Heading;"⟩ : MethodName)) hown (mvT hZ (hw _ (List.mem_of_getElem? (i := 22) rfl))) (mvT hZ (hw _ (List.mem_of_getElem? (i := 23) rfl))) (notFace_of_selects (args := #[]) (mvT hZ (hw _ (List.mem_of_getElem? (i := 25) rfl)))) (mvT hZ (hw _ (List.mem_of_getElem? (i := 25) rfl))) (mvT hZ (hw _ (List.mem_of_getElem? (i := 24) rfl))) (by decide) (backOf (W := 0) (rmT l Z a0 hw [] b151 (0 : Int32) (1 : Int32) (0 : Int32) (0 : Int32) w0 w1 w2 w0 T155.heap n0 Z157 G0_155 G1_155 G2_155 G3_155 (S0.ext O157.2) (S1.ext O157.2) (S2.ext O157.2) (by simp [towF])) hZ (hw _ (List.mem_of_getElem? (i := 26) rfl)) (hw _ (List.mem_of_getElem? (i := 2) rfl)) (by decide) (by decide)) q159a q159c (g := (mkF m 74 #[.val (.int p1), .val (.int (0 : Int32)), .val (.int (1 : Int32)), .val (.int (0 : Int32)), .val (.int (0 : Int32)), .val (.ref b151), .unset, .unset, .unset, .unset, .unset] [(.ref b151)])) rfl (by rw [hml]; rfl) (Steps.refl _) (argsL := []) (rest := []) (lenOf pdL_1 rfl) rfl (by show 2 * 0 + _ ≤ _; exact Nat.le_of_eq rfl) (hb hby at_74) (fun _ _ => ⟨rfl, rfl, (by decide : 1 + 0 ≤ _), (by decide : 4 + 0 ≤ _)⟩)
          dsimp only [Pt.U, Pt.locs, Pt.cells, Pt.slots] at X159 l159 y159 z159 st159 hQ159
          subst l159 y159 z159
          obtain ⟨rfl, N159q, hq159⟩ := hQ159
          have N159 := Fr.app N155 N159q
          have pre160 : Go p e below T159 (mkF m 77 #[.val (.int p1), .val (.int (0 : Int32)), .val (.int (1 : Int32)), .val (.int (0 : Int32)), .val (.int (0 : Int32)), .val (.ref b151), .unset, .unset, .unset, .unset, .unset] [(.ref w0)]) s₁ (entryFrame m #[(.int p1)] maxLocals) := fun t k => pre158 t (st159.trans k)
          have e159 : T159.heap = T155.heap := hq159
          have pre161 : Go p e below T159 (mkF m 80 #[.val (.int p1), .val (.int (0 : Int32)), .val (.int (1 : Int32)), .val (.int (0 : Int32)), .val (.int (0 : Int32)), .val (.ref b151), .val (.ref w0), .unset, .unset, .unset, .unset] [(.int (0 : Int32))]) s₁ (entryFrame m #[(.int p1)] maxLocals) := fun t k => pre160 t (by
              show Steps p.tables e below (T159.setTop (mkF m 77 #[.val (.int p1), .val (.int (0 : Int32)), .val (.int (1 : Int32)), .val (.int (0 : Int32)), .val (.int (0 : Int32)), .val (.ref b151), .unset, .unset, .unset, .unset, .unset] [(.ref w0)])) t
              refine XS.astore X159.here hx rfl (hb hby at_77) rfl rfl (l' := #[.val (.int p1), .val (.int (0 : Int32)), .val (.int (1 : Int32)), .val (.int (0 : Int32)), .val (.int (0 : Int32)), .val (.ref b151), .val (.ref w0), .unset, .unset, .unset, .unset]) rfl ?_
              show Steps p.tables e below (T159.setTop (mkF m 79 #[.val (.int p1), .val (.int (0 : Int32)), .val (.int (1 : Int32)), .val (.int (0 : Int32)), .val (.int (0 : Int32)), .val (.ref b151), .val (.ref w0), .unset, .unset, .unset, .unset] [])) t
              refine XS.iloadN X159.here hx rfl (hb hby at_79) rfl ?_
              exact k)
          have pre162 : Go p e below T159 (mkF m 92 #[.val (.int p1), .val (.int (0 : Int32)), .val (.int (1 : Int32)), .val (.int (0 : Int32)), .val (.int (0 : Int32)), .val (.ref b151), .val (.ref w0), .unset, .unset, .unset, .unset] []) s₁ (entryFrame m #[(.int p1)] maxLocals) := fun t k => pre161 t (XS.ifYes X159.here hx rfl (pc0 := 80) (pc' := 92) rfl (hb hby at_80) rfl ((if0 _ _).trans (teq (by decide : (0 : Int32) = (0 : Int32))).1) (by decide) (by decide) k)
          have pre163 : Go p e below T159 (mkF m 96 #[.val (.int p1), .val (.int (0 : Int32)), .val (.int (1 : Int32)), .val (.int (0 : Int32)), .val (.int (0 : Int32)), .val (.ref b151), .val (.ref w0), .val (.int (0 : Int32)), .unset, .unset, .unset] [(.int (1 : Int32))]) s₁ (entryFrame m #[(.int p1)] maxLocals) := fun t k => pre162 t (by
              show Steps p.tables e below (T159.setTop (mkF m 92 #[.val (.int p1), .val (.int (0 : Int32)), .val (.int (1 : Int32)), .val (.int (0 : Int32)), .val (.int (0 : Int32)), .val (.ref b151), .val (.ref w0), .unset, .unset, .unset, .unset] [])) t
              refine XS.iconst X159.here hx rfl (hb hby at_92) ?_
              show Steps p.tables e below (T159.setTop (mkF m 93 #[.val (.int p1), .val (.int (0 : Int32)), .val (.int (1 : Int32)), .val (.int (0 : Int32)), .val (.int (0 : Int32)), .val (.ref b151), .val (.ref w0), .unset, .unset, .unset, .unset] [(.int (0 : Int32))])) t
              refine XS.istore X159.here hx rfl (hb hby at_93) rfl (l' := #[.val (.int p1), .val (.int (0 : Int32)), .val (.int (1 : Int32)), .val (.int (0 : Int32)), .val (.int (0 : Int32)), .val (.ref b151), .val (.ref w0), .val (.int (0 : Int32)), .unset, .unset, .unset]) rfl ?_
              show Steps p.tables e below (T159.setTop (mkF m 95 #[.val (.int p1), .val (.int (0 : Int32)), .val (.int (1 : Int32)), .val (.int (0 : Int32)), .val (.int (0 : Int32)), .val (.ref b151), .val (.ref w0), .val (.int (0 : Int32)), .unset, .unset, .unset] [])) t
              refine XS.iloadN X159.here hx rfl (hb hby at_95) rfl ?_
              exact k)
          have pre164 : Go p e below T159 (mkF m 99 #[.val (.int p1), .val (.int (0 : Int32)), .val (.int (1 : Int32)), .val (.int (0 : Int32)), .val (.int (0 : Int32)), .val (.ref b151), .val (.ref w0), .val (.int (0 : Int32)), .unset, .unset, .unset] []) s₁ (entryFrame m #[(.int p1)] maxLocals) := fun t k => pre163 t (XS.ifNo X159.here hx rfl (hb hby at_96) rfl ((if0 _ _).trans (feq (by decide : ¬ ((1 : Int32) = (0 : Int32)))).1) k)
          have pre165 : Go p e below T159 (mkF m 100 #[.val (.int p1), .val (.int (0 : Int32)), .val (.int (1 : Int32)), .val (.int (0 : Int32)), .val (.int (0 : Int32)), .val (.ref b151), .val (.ref w0), .val (.int (0 : Int32)), .unset, .unset, .unset] [(.int (0 : Int32))]) s₁ (entryFrame m #[(.int p1)] maxLocals) := fun t k => pre164 t (by
              show Steps p.tables e below (T159.setTop (mkF m 99 #[.val (.int p1), .val (.int (0 : Int32)), .val (.int (1 : Int32)), .val (.int (0 : Int32)), .val (.int (0 : Int32)), .val (.ref b151), .val (.ref w0), .val (.int (0 : Int32)), .unset, .unset, .unset] [])) t
              refine XS.iloadN X159.here hx rfl (hb hby at_99) rfl ?_
              exact k)
          have pre166 : Go p e below T159 (mkF m 107 #[.val (.int p1), .val (.int (0 : Int32)), .val (.int (1 : Int32)), .val (.int (0 : Int32)), .val (.int (0 : Int32)), .val (.ref b151), .val (.ref w0), .val (.int (0 : Int32)), .unset, .unset, .unset] []) s₁ (entryFrame m #[(.int p1)] maxLocals) := fun t k => pre165 t (XS.ifYes X159.here hx rfl (pc0 := 100) (pc' := 107) rfl (hb hby at_100) rfl ((if0 _ _).trans (teq (by decide : (0 : Int32) = (0 : Int32))).1) (by decide) (by decide) k)
          have pre167 : Go p e below T159 (mkF m 119 #[.val (.int p1), .val (.int (0 : Int32)), .val (.int (1 : Int32)), .val (.int (0 : Int32)), .val (.int (0 : Int32)), .val (.ref b151), .val (.ref w0), .val (.int (0 : Int32)), .val (.int (0 : Int32)), .val (.int (0 : Int32)), .unset] [(.int (0 : Int32))]) s₁ (entryFrame m #[(.int p1)] maxLocals) := fun t k => pre166 t (by
              show Steps p.tables e below (T159.setTop (mkF m 107 #[.val (.int p1), .val (.int (0 : Int32)), .val (.int (1 : Int32)), .val (.int (0 : Int32)), .val (.int (0 : Int32)), .val (.ref b151), .val (.ref w0), .val (.int (0 : Int32)), .unset, .unset, .unset] [])) t
              refine XS.iconst X159.here hx rfl (hb hby at_107) ?_
              show Steps p.tables e below (T159.setTop (mkF m 108 #[.val (.int p1), .val (.int (0 : Int32)), .val (.int (1 : Int32)), .val (.int (0 : Int32)), .val (.int (0 : Int32)), .val (.ref b151), .val (.ref w0), .val (.int (0 : Int32)), .unset, .unset, .unset] [(.int (0 : Int32))])) t
              refine XS.istore X159.here hx rfl (hb hby at_108) rfl (l' := #[.val (.int p1), .val (.int (0 : Int32)), .val (.int (1 : Int32)), .val (.int (0 : Int32)), .val (.int (0 : Int32)), .val (.ref b151), .val (.ref w0), .val (.int (0 : Int32)), .val (.int (0 : Int32)), .unset, .unset]) rfl ?_
              show Steps p.tables e below (T159.setTop (mkF m 110 #[.val (.int p1), .val (.int (0 : Int32)), .val (.int (1 : Int32)), .val (.int (0 : Int32)), .val (.int (0 : Int32)), .val (.ref b151), .val (.ref w0), .val (.int (0 : Int32)), .val (.int (0 : Int32)), .unset, .unset] [])) t
              refine XS.iload X159.here hx rfl (hb hby at_110) rfl ?_
              show Steps p.tables e below (T159.setTop (mkF m 112 #[.val (.int p1), .val (.int (0 : Int32)), .val (.int (1 : Int32)), .val (.int (0 : Int32)), .val (.int (0 : Int32)), .val (.ref b151), .val (.ref w0), .val (.int (0 : Int32)), .val (.int (0 : Int32)), .unset, .unset] [(.int (0 : Int32))])) t
              refine XS.iload X159.here hx rfl (hb hby at_112) rfl ?_
              show Steps p.tables e below (T159.setTop (mkF m 114 #[.val (.int p1), .val (.int (0 : Int32)), .val (.int (1 : Int32)), .val (.int (0 : Int32)), .val (.int (0 : Int32)), .val (.ref b151), .val (.ref w0), .val (.int (0 : Int32)), .val (.int (0 : Int32)), .unset, .unset] [(.int (0 : Int32)), (.int (0 : Int32))])) t
              refine XS.isub X159.here hx rfl (hb hby at_114) rfl ?_
              show Steps p.tables e below (T159.setTop (mkF m 115 #[.val (.int p1), .val (.int (0 : Int32)), .val (.int (1 : Int32)), .val (.int (0 : Int32)), .val (.int (0 : Int32)), .val (.ref b151), .val (.ref w0), .val (.int (0 : Int32)), .val (.int (0 : Int32)), .unset, .unset] [(.int (0 : Int32))])) t
              refine XS.istore X159.here hx rfl (hb hby at_115) rfl (l' := #[.val (.int p1), .val (.int (0 : Int32)), .val (.int (1 : Int32)), .val (.int (0 : Int32)), .val (.int (0 : Int32)), .val (.ref b151), .val (.ref w0), .val (.int (0 : Int32)), .val (.int (0 : Int32)), .val (.int (0 : Int32)), .unset]) rfl ?_
              show Steps p.tables e below (T159.setTop (mkF m 117 #[.val (.int p1), .val (.int (0 : Int32)), .val (.int (1 : Int32)), .val (.int (0 : Int32)), .val (.int (0 : Int32)), .val (.ref b151), .val (.ref w0), .val (.int (0 : Int32)), .val (.int (0 : Int32)), .val (.int (0 : Int32)), .unset] [])) t
              refine XS.iload X159.here hx rfl (hb hby at_117) rfl ?_
              exact k)
          have pre168 : Go p e below T159 (mkF m 130 #[.val (.int p1), .val (.int (0 : Int32)), .val (.int (1 : Int32)), .val (.int (0 : Int32)), .val (.int (0 : Int32)), .val (.ref b151), .val (.ref w0), .val (.int (0 : Int32)), .val (.int (0 : Int32)), .val (.int (0 : Int32)), .unset] []) s₁ (entryFrame m #[(.int p1)] maxLocals) := fun t k => pre167 t (XS.ifYes X159.here hx rfl (pc0 := 119) (pc' := 130) rfl (hb hby at_119) rfl ((if0 _ _).trans (flt (by decide : ¬ ((0 : Int32) < (0 : Int32)))).2.2.2) (by decide) (by decide) k)
          have pre169 : Go p e below T159 (mkF m 132 #[.val (.int p1), .val (.int (0 : Int32)), .val (.int (1 : Int32)), .val (.int (0 : Int32)), .val (.int (0 : Int32)), .val (.ref b151), .val (.ref w0), .val (.int (0 : Int32)), .val (.int (0 : Int32)), .val (.int (0 : Int32)), .unset] [(.int (0 : Int32))]) s₁ (entryFrame m #[(.int p1)] maxLocals) := fun t k => pre168 t (by
              show Steps p.tables e below (T159.setTop (mkF m 130 #[.val (.int p1), .val (.int (0 : Int32)), .val (.int (1 : Int32)), .val (.int (0 : Int32)), .val (.int (0 : Int32)), .val (.ref b151), .val (.ref w0), .val (.int (0 : Int32)), .val (.int (0 : Int32)), .val (.int (0 : Int32)), .unset] [])) t
              refine XS.iload X159.here hx rfl (hb hby at_130) rfl ?_
              exact k)
          have pre170 : Go p e below T159 (mkF m 143 #[.val (.int p1), .val (.int (0 : Int32)), .val (.int (1 : Int32)), .val (.int (0 : Int32)), .val (.int (0 : Int32)), .val (.ref b151), .val (.ref w0), .val (.int (0 : Int32)), .val (.int (0 : Int32)), .val (.int (0 : Int32)), .unset] []) s₁ (entryFrame m #[(.int p1)] maxLocals) := fun t k => pre169 t (XS.ifYes X159.here hx rfl (pc0 := 132) (pc' := 143) rfl (hb hby at_132) rfl ((if0 _ _).trans (flt (by decide : ¬ ((0 : Int32) < (0 : Int32)))).2.1) (by decide) (by decide) k)
          obtain ⟨T171, X171, e171, st171⟩ := getS2 X159 hx hZ hown (host := "") (Or.inl (hw _ (List.mem_of_getElem? (i := 30) rfl))) Via.refl e159 (S0.ext O157.2) (g := (mkF m 143 #[.val (.int p1), .val (.int (0 : Int32)), .val (.int (1 : Int32)), .val (.int (0 : Int32)), .val (.int (0 : Int32)), .val (.ref b151), .val (.ref w0), .val (.int (0 : Int32)), .val (.int (0 : Int32)), .val (.int (0 : Int32)), .unset] [])) rfl (hb hby at_143)
          have pre172 : Go p e below T171 (mkF m 146 #[.val (.int p1), .val (.int (0 : Int32)), .val (.int (1 : Int32)), .val (.int (0 : Int32)), .val (.int (0 : Int32)), .val (.ref b151), .val (.ref w0), .val (.int (0 : Int32)), .val (.int (0 : Int32)), .val (.int (0 : Int32)), .unset] [(.ref w0)]) s₁ (entryFrame m #[(.int p1)] maxLocals) := fun t k => pre170 t (st171 t k)
          have pre173 : Go p e below T171 (mkF m 152 #[.val (.int p1), .val (.int (0 : Int32)), .val (.int (1 : Int32)), .val (.int (0 : Int32)), .val (.int (0 : Int32)), .val (.ref b151), .val (.ref w0), .val (.int (0 : Int32)), .val (.int (0 : Int32)), .val (.int (0 : Int32)), .val (.ref w0)] [(.ref w0), (.ref w0)]) s₁ (entryFrame m #[(.int p1)] maxLocals) := fun t k => pre172 t (by
              show Steps p.tables e below (T171.setTop (mkF m 146 #[.val (.int p1), .val (.int (0 : Int32)), .val (.int (1 : Int32)), .val (.int (0 : Int32)), .val (.int (0 : Int32)), .val (.ref b151), .val (.ref w0), .val (.int (0 : Int32)), .val (.int (0 : Int32)), .val (.int (0 : Int32)), .unset] [(.ref w0)])) t
              refine XS.astore X171.here hx rfl (hb hby at_146) rfl rfl (l' := #[.val (.int p1), .val (.int (0 : Int32)), .val (.int (1 : Int32)), .val (.int (0 : Int32)), .val (.int (0 : Int32)), .val (.ref b151), .val (.ref w0), .val (.int (0 : Int32)), .val (.int (0 : Int32)), .val (.int (0 : Int32)), .val (.ref w0)]) rfl ?_
              show Steps p.tables e below (T171.setTop (mkF m 148 #[.val (.int p1), .val (.int (0 : Int32)), .val (.int (1 : Int32)), .val (.int (0 : Int32)), .val (.int (0 : Int32)), .val (.ref b151), .val (.ref w0), .val (.int (0 : Int32)), .val (.int (0 : Int32)), .val (.int (0 : Int32)), .val (.ref w0)] [])) t
              refine XS.aload X171.here hx rfl (hb hby at_148) rfl rfl ?_
              show Steps p.tables e below (T171.setTop (mkF m 150 #[.val (.int p1), .val (.int (0 : Int32)), .val (.int (1 : Int32)), .val (.int (0 : Int32)), .val (.int (0 : Int32)), .val (.ref b151), .val (.ref w0), .val (.int (0 : Int32)), .val (.int (0 : Int32)), .val (.int (0 : Int32)), .val (.ref w0)] [(.ref w0)])) t
              refine XS.aload X171.here hx rfl (hb hby at_150) rfl rfl ?_
              exact k)
          have pre174 : Go p e below T171 (mkF m 155 #[.val (.int p1), .val (.int (0 : Int32)), .val (.int (1 : Int32)), .val (.int (0 : Int32)), .val (.int (0 : Int32)), .val (.ref b151), .val (.ref w0), .val (.int (0 : Int32)), .val (.int (0 : Int32)), .val (.int (0 : Int32)), .val (.ref w0)] []) s₁ (entryFrame m #[(.int p1)] maxLocals) := fun t k => pre173 t (Jvm.RoadKit.acmp (g := (mkF m 152 #[.val (.int p1), .val (.int (0 : Int32)), .val (.int (1 : Int32)), .val (.int (0 : Int32)), .val (.int (0 : Int32)), .val (.ref b151), .val (.ref w0), .val (.int (0 : Int32)), .val (.int (0 : Int32)), .val (.int (0 : Int32)), .val (.ref w0)] [(.ref w0), (.ref w0)])) X171 hx rfl rfl rfl (pc0 := 152) (pc' := 155) (same := true) rfl (hb hby at_152) rfl (decide_eq_true rfl) (by decide) (by decide) k)
          have pre175 : Go p e below T171 (mkF m 160 #[.val (.int p1), .val (.int (0 : Int32)), .val (.int (1 : Int32)), .val (.int (0 : Int32)), .val (.int (0 : Int32)), .val (.ref b151), .val (.ref w0), .val (.int (0 : Int32)), .val (.int (0 : Int32)), .val (.int (0 : Int32)), .val (.ref w0)] [(.int (1 : Int32))]) s₁ (entryFrame m #[(.int p1)] maxLocals) := fun t k => pre174 t (by
              show Steps p.tables e below (T171.setTop (mkF m 155 #[.val (.int p1), .val (.int (0 : Int32)), .val (.int (1 : Int32)), .val (.int (0 : Int32)), .val (.int (0 : Int32)), .val (.ref b151), .val (.ref w0), .val (.int (0 : Int32)), .val (.int (0 : Int32)), .val (.int (0 : Int32)), .val (.ref w0)] [])) t
              refine XS.iconst X171.here hx rfl (hb hby at_155) ?_
              show Steps p.tables e below (T171.setTop (mkF m 156 #[.val (.int p1), .val (.int (0 : Int32)), .val (.int (1 : Int32)), .val (.int (0 : Int32)), .val (.int (0 : Int32)), .val (.ref b151), .val (.ref w0), .val (.int (0 : Int32)), .val (.int (0 : Int32)), .val (.int (0 : Int32)), .val (.ref w0)] [(.int (1 : Int32))])) t
              refine XS.goto X171.here hx rfl (pc0 := 156) (pc' := 160) rfl (hb hby at_156) (by decide) (by decide) ?_
              exact k)
          have hnr : Value.int (nar .boolean (1 : Int32)) = (.int (1 : Int32)) := by rfl
          obtain ⟨fs, hr, hrun, hended, hW, hsame⟩ := X171.leave (v := some (.int (1 : Int32))) (fun h => by rw [Bd.returns] at h; cases h)
          refine ⟨_, _, pre175 _ (retN X171 hx (t := .boolean) Bd.returns (by simp) (hb hby at_160) (hnr ▸ hr)), hrun, hended, _, _, rfl, ?_, ⟨_, rfl⟩, hW, hsame.mono (by decide) (by decide)⟩
          show QL Z p1 w0 w1 w2 h0 n0 _ T171.heap _
          rw [e171]
          exact ⟨rfl, N159⟩
      · have pre176 : Go p e below s₁ (mkF m 30 #[.val (.int p1), .val (.int (0 : Int32)), .val (.int (1 : Int32)), .unset, .unset, .unset, .unset, .unset, .unset, .unset, .unset] []) s₁ (entryFrame m #[(.int p1)] maxLocals) := fun t k => pre117 t (XS.ifNo X0.here hx rfl (hb hby at_27) rfl ((if0 _ _).trans (feq hc27).1) k)
        have pre177 : Go p e below s₁ (mkF m 31 #[.val (.int p1), .val (.int (0 : Int32)), .val (.int (1 : Int32)), .unset, .unset, .unset, .unset, .unset, .unset, .unset, .unset] [(.int (0 : Int32))]) s₁ (entryFrame m #[(.int p1)] maxLocals) := fun t k => pre176 t (by
            show Steps p.tables e below (s₁.setTop (mkF m 30 #[.val (.int p1), .val (.int (0 : Int32)), .val (.int (1 : Int32)), .unset, .unset, .unset, .unset, .unset, .unset, .unset, .unset] [])) t
            refine XS.iloadN X0.here hx rfl (hb hby at_30) rfl ?_
            exact k)
        have pre178 : Go p e below s₁ (mkF m 34 #[.val (.int p1), .val (.int (0 : Int32)), .val (.int (1 : Int32)), .unset, .unset, .unset, .unset, .unset, .unset, .unset, .unset] []) s₁ (entryFrame m #[(.int p1)] maxLocals) := fun t k => pre177 t (XS.ifNo X0.here hx rfl (hb hby at_31) rfl ((if0 _ _).trans (teq (by decide : (0 : Int32) = (0 : Int32))).2) k)
        have pre179 : Go p e below s₁ (mkF m 44 #[.val (.int p1), .val (.int (0 : Int32)), .val (.int (1 : Int32)), .val (.int (1 : Int32)), .unset, .unset, .unset, .unset, .unset, .unset, .unset] [(.int (p1 &&& (8 : Int32)))]) s₁ (entryFrame m #[(.int p1)] maxLocals) := fun t k => pre178 t (by
            show Steps p.tables e below (s₁.setTop (mkF m 34 #[.val (.int p1), .val (.int (0 : Int32)), .val (.int (1 : Int32)), .unset, .unset, .unset, .unset, .unset, .unset, .unset, .unset] [])) t
            refine XS.iconst X0.here hx rfl (hb hby at_34) ?_
            show Steps p.tables e below (s₁.setTop (mkF m 35 #[.val (.int p1), .val (.int (0 : Int32)), .val (.int (1 : Int32)), .unset, .unset, .unset, .unset, .unset, .unset, .unset, .unset] [(.int (1 : Int32))])) t
            refine XS.goto X0.here hx rfl (pc0 := 35) (pc' := 39) rfl (hb hby at_35) (by decide) (by decide) ?_
            show Steps p.tables e below (s₁.setTop (mkF m 39 #[.val (.int p1), .val (.int (0 : Int32)), .val (.int (1 : Int32)), .unset, .unset, .unset, .unset, .unset, .unset, .unset, .unset] [(.int (1 : Int32))])) t
            refine XS.istoreN X0.here hx rfl (hb hby at_39) rfl (l' := #[.val (.int p1), .val (.int (0 : Int32)), .val (.int (1 : Int32)), .val (.int (1 : Int32)), .unset, .unset, .unset, .unset, .unset, .unset, .unset]) rfl ?_
            show Steps p.tables e below (s₁.setTop (mkF m 40 #[.val (.int p1), .val (.int (0 : Int32)), .val (.int (1 : Int32)), .val (.int (1 : Int32)), .unset, .unset, .unset, .unset, .unset, .unset, .unset] [])) t
            refine XS.iloadN X0.here hx rfl (hb hby at_40) rfl ?_
            show Steps p.tables e below (s₁.setTop (mkF m 41 #[.val (.int p1), .val (.int (0 : Int32)), .val (.int (1 : Int32)), .val (.int (1 : Int32)), .unset, .unset, .unset, .unset, .unset, .unset, .unset] [(.int p1)])) t
            refine XS.bipush X0.here hx rfl (hb hby at_41) ?_
            show Steps p.tables e below (s₁.setTop (mkF m 43 #[.val (.int p1), .val (.int (0 : Int32)), .val (.int (1 : Int32)), .val (.int (1 : Int32)), .unset, .unset, .unset, .unset, .unset, .unset, .unset] [(.int (8 : Int32)), (.int p1)])) t
            refine XS.iand X0.here hx rfl (hb hby at_43) rfl ?_
            exact k)
        by_cases hc44 : (p1 &&& (8 : Int32)) = (0 : Int32)
        · have pre180 : Go p e below s₁ (mkF m 55 #[.val (.int p1), .val (.int (0 : Int32)), .val (.int (1 : Int32)), .val (.int (1 : Int32)), .unset, .unset, .unset, .unset, .unset, .unset, .unset] []) s₁ (entryFrame m #[(.int p1)] maxLocals) := fun t k => pre179 t (XS.ifYes X0.here hx rfl (pc0 := 44) (pc' := 55) rfl (hb hby at_44) rfl ((if0 _ _).trans (teq hc44).1) (by decide) (by decide) k)
          have pre181 : Go p e below s₁ (mkF m 58 #[.val (.int p1), .val (.int (0 : Int32)), .val (.int (1 : Int32)), .val (.int (1 : Int32)), .val (.int (0 : Int32)), .unset, .unset, .unset, .unset, .unset, .unset] []) s₁ (entryFrame m #[(.int p1)] maxLocals) := fun t k => pre180 t (by
              show Steps p.tables e below (s₁.setTop (mkF m 55 #[.val (.int p1), .val (.int (0 : Int32)), .val (.int (1 : Int32)), .val (.int (1 : Int32)), .unset, .unset, .unset, .unset, .unset, .unset, .unset] [])) t
              refine XS.iconst X0.here hx rfl (hb hby at_55) ?_
              show Steps p.tables e below (s₁.setTop (mkF m 56 #[.val (.int p1), .val (.int (0 : Int32)), .val (.int (1 : Int32)), .val (.int (1 : Int32)), .unset, .unset, .unset, .unset, .unset, .unset, .unset] [(.int (0 : Int32))])) t
              refine XS.istore X0.here hx rfl (hb hby at_56) rfl (l' := #[.val (.int p1), .val (.int (0 : Int32)), .val (.int (1 : Int32)), .val (.int (1 : Int32)), .val (.int (0 : Int32)), .unset, .unset, .unset, .unset, .unset, .unset]) rfl ?_
              exact k)
          obtain ⟨T182, h182, X182, e182, E182, A182, D182, U182, st182⟩ := newO X0 hx hZ hown (hw _ (List.mem_of_getElem? (i := 0) rfl)) (hw _ (List.mem_of_getElem? (i := 1) rfl)) (hw _ (List.mem_of_getElem? (i := 2) rfl)) e0 (g := (mkF m 58 #[.val (.int p1), .val (.int (0 : Int32)), .val (.int (1 : Int32)), .val (.int (1 : Int32)), .val (.int (0 : Int32)), .unset, .unset, .unset, .unset, .unset, .unset] [])) rfl (hb hby at_58) (by decide) (by decide)
          obtain ⟨b182, g182⟩ : ∃ z, z = h0.size := ⟨_, rfl⟩
          rw [← g182] at A182 st182 D182
          have g_b182 : n0 ≤ b182 := Nat.le_trans Z0 (Nat.le_of_eq g182.symm)
          have pre183 : Go p e below T182 (mkF m 61 #[.val (.int p1), .val (.int (0 : Int32)), .val (.int (1 : Int32)), .val (.int (1 : Int32)), .val (.int (0 : Int32)), .unset, .unset, .unset, .unset, .unset, .unset] [(.ref b182)]) s₁ (entryFrame m #[(.int p1)] maxLocals) := fun t k => pre181 t (st182 t k)
          have O184 : Old Z n0 h182 := O0.ext E182
          have Z184 : n0 ≤ h182.size := Nat.le_trans Z0 E182.1
          have F_seesLeft_b182 : Fld Z h182 b182 "com/example/picketline/picketline/protocol/Surroundings" "seesLeft" "Z" (.int (0 : Int32)) := D182 (Or.inr (hw _ (List.mem_of_getElem? (i := 15) rfl))) (ty := .boolean) (by decide)
          have F_seesRight_b182 : Fld Z h182 b182 "com/example/picketline/picketline/protocol/Surroundings" "seesRight" "Z" (.int (0 : Int32)) := D182 (Or.inr (hw _ (List.mem_of_getElem? (i := 17) rfl))) (ty := .boolean) (by decide)
          have F_gapLeft_b182 : Fld Z h182 b182 "com/example/picketline/picketline/protocol/Surroundings" "gapLeft" "Z" (.int (0 : Int32)) := D182 (Or.inr (hw _ (List.mem_of_getElem? (i := 19) rfl))) (ty := .boolean) (by decide)
          have F_gapRight_b182 : Fld Z h182 b182 "com/example/picketline/picketline/protocol/Surroundings" "gapRight" "Z" (.int (0 : Int32)) := D182 (Or.inr (hw _ (List.mem_of_getElem? (i := 21) rfl))) (ty := .boolean) (by decide)
          have pre185 : Go p e below T182 (mkF m 67 #[.val (.int p1), .val (.int (0 : Int32)), .val (.int (1 : Int32)), .val (.int (1 : Int32)), .val (.int (0 : Int32)), .unset, .unset, .unset, .unset, .unset, .unset] [(.int (0 : Int32)), (.int (1 : Int32)), (.int (1 : Int32)), (.int (0 : Int32)), (.ref b182), (.ref b182)]) s₁ (entryFrame m #[(.int p1)] maxLocals) := fun t k => pre183 t (by
              show Steps p.tables e below (T182.setTop (mkF m 61 #[.val (.int p1), .val (.int (0 : Int32)), .val (.int (1 : Int32)), .val (.int (1 : Int32)), .val (.int (0 : Int32)), .unset, .unset, .unset, .unset, .unset, .unset] [(.ref b182)])) t
              refine XS.dup X182.here hx rfl (hb hby at_61) rfl rfl ?_
              show Steps p.tables e below (T182.setTop (mkF m 62 #[.val (.int p1), .val (.int (0 : Int32)), .val (.int (1 : Int32)), .val (.int (1 : Int32)), .val (.int (0 : Int32)), .unset, .unset, .unset, .unset, .unset, .unset] [(.ref b182), (.ref b182)])) t
              refine XS.iloadN X182.here hx rfl (hb hby at_62) rfl ?_
              show Steps p.tables e below (T182.setTop (mkF m 63 #[.val (.int p1), .val (.int (0 : Int32)), .val (.int (1 : Int32)), .val (.int (1 : Int32)), .val (.int (0 : Int32)), .unset, .unset, .unset, .unset, .unset, .unset] [(.int (0 : Int32)), (.ref b182), (.ref b182)])) t
              refine XS.iloadN X182.here hx rfl (hb hby at_63) rfl ?_
              show Steps p.tables e below (T182.setTop (mkF m 64 #[.val (.int p1), .val (.int (0 : Int32)), .val (.int (1 : Int32)), .val (.int (1 : Int32)), .val (.int (0 : Int32)), .unset, .unset, .unset, .unset, .unset, .unset] [(.int (1 : Int32)), (.int (0 : Int32)), (.ref b182), (.ref b182)])) t
              refine XS.iloadN X182.here hx rfl (hb hby at_64) rfl ?_
              show Steps p.tables e below (T182.setTop (mkF m 65 #[.val (.int p1), .val (.int (0 : Int32)), .val (.int (1 : Int32)), .val (.int (1 : Int32)), .val (.int (0 : Int32)), .unset, .unset, .unset, .unset, .unset, .unset] [(.int (1 : Int32)), (.int (1 : Int32)), (.int (0 : Int32)), (.ref b182), (.ref b182)])) t
              refine XS.iload X182.here hx rfl (hb hby at_65) rfl ?_
              exact k)
          obtain ⟨_, _, ⟨T186, L186, k186, n186⟩, -, X186, ⟨Lc186, hQ186, l186, y186, z186⟩, st186⟩ := X182.specialBack hx (y := (⟨"com/example/picketline/picketline/protocol/Surroundings", "<init>", "(ZZZZ)V"⟩ : MethodName)) rfl hown (mvT hZ (hw _ (List.mem_of_getElem? (i := 3) rfl))) (mvT hZ (hw _ (List.mem_of_getElem? (i := 4) rfl))) (mvT hZ (hw _ (List.mem_of_getElem? (i := 5) rfl))) (by decide) (backOf (W := 1) (rmC l Z a0 hw [] b182 (0 : Int32) (1 : Int32) (1 : Int32) (0 : Int32) h182 n0 Z184 A182 g_b182 F_seesLeft_b182 F_seesRight_b182 F_gapLeft_b182 F_gapRight_b182 rfl rfl rfl rfl rfl rfl rfl rfl) hZ (hw _ (List.mem_of_getElem? (i := 5) rfl)) (hw _ (List.mem_of_getElem? (i := 2) rfl)) (by decide) (by decide)) (g := (mkF m 67 #[.val (.int p1), .val (.int (0 : Int32)), .val (.int (1 : Int32)), .val (.int (1 : Int32)), .val (.int (0 : Int32)), .unset, .unset, .unset, .unset, .unset, .unset] [(.int (0 : Int32)), (.int (1 : Int32)), (.int (1 : Int32)), (.int (0 : Int32)), (.ref b182), (.ref b182)])) rfl (by rw [hml]; rfl) (Steps.refl _) (a := b182) (argsL := [(.int (0 : Int32)), (.int (1 : Int32)), (.int (1 : Int32)), (.int (0 : Int32))]) (rest := [(.ref b182)]) (lenOf pdL_0 rfl) rfl (by show 2 * 0 + _ ≤ _; exact Nat.le_of_eq rfl) (hb hby at_67) (fun _ _ => ⟨rfl, e182, (by decide : 1 + 0 ≤ _), (by decide : 4 + 0 ≤ _)⟩)
          dsimp only [Pt.U, Pt.locs, Pt.cells, Pt.slots] at X186 l186 y186 z186 st186 hQ186
          subst l186 y186 z186
          obtain ⟨rfl, N186q, K186, EX186, G0_186, G1_186, G2_186, G3_186⟩ := hQ186
          have N186 := Fr.app N0 N186q
          have pre187 : Go p e below T186 (mkF m 70 #[.val (.int p1), .val (.int (0 : Int32)), .val (.int (1 : Int32)), .val (.int (1 : Int32)), .val (.int (0 : Int32)), .unset, .unset, .unset, .unset, .unset, .unset] [(.ref b182)]) s₁ (entryFrame m #[(.int p1)] maxLocals) := fun t k => pre185 t (st186.trans k)
          have O188 : Old Z n0 T186.heap := O184.keep K186 (allS g_b182 all0)
          have Z188 : n0 ≤ T186.heap.size := Nat.le_trans Z184 K186.1
          have pre189 : Go p e below T186 (mkF m 74 #[.val (.int p1), .val (.int (0 : Int32)), .val (.int (1 : Int32)), .val (.int (1 : Int32)), .val (.int (0 : Int32)), .val (.ref b182), .unset, .unset, .unset, .unset, .unset] [(.ref b182)]) s₁ (entryFrame m #[(.int p1)] maxLocals) := fun t k => pre187 t (by
              show Steps p.tables e below (T186.setTop (mkF m 70 #[.val (.int p1), .val (.int (0 : Int32)), .val (.int (1 : Int32)), .val (.int (1 : Int32)), .val (.int (0 : Int32)), .unset, .unset, .unset, .unset, .unset, .unset] [(.ref b182)])) t
              refine XS.astore X186.here hx rfl (hb hby at_70) rfl rfl (l' := #[.val (.int p1), .val (.int (0 : Int32)), .val (.int (1 : Int32)), .val (.int (1 : Int32)), .val (.int (0 : Int32)), .val (.ref b182), .unset, .unset, .unset, .unset, .unset]) rfl ?_
              show Steps p.tables e below (T186.setTop (mkF m 72 #[.val (.int p1), .val (.int (0 : Int32)), .val (.int (1 : Int32)), .val (.int (1 : Int32)), .val (.int (0 : Int32)), .val (.ref b182), .unset, .unset, .unset, .unset, .unset] [])) t
              refine XS.aload X186.here hx rfl (hb hby at_72) rfl rfl ?_
              exact k)
          obtain ⟨cq190, kq190, q190a, q190b, q190c⟩ := isOf hZ rfl EX186
          obtain ⟨_, _, ⟨T190, L190, k190, n190⟩, -, X190, ⟨Lc190, hQ190, l190, y190, z190⟩, st190⟩ := X186.virtualBack hx (y := (⟨"com/example/picketline/picketline/protocol/Surroundings", "towardGap", "()Lcom/example/picketline/picketline/protocol/Heading;"⟩ : MethodName)) (z := (⟨"com/example/picketline/picketline/protocol/Surroundings", "towardGap", "()Lcom/example/picketline/picketline/protocol/Heading;"⟩ : MethodName)) hown (mvT hZ (hw _ (List.mem_of_getElem? (i := 22) rfl))) (mvT hZ (hw _ (List.mem_of_getElem? (i := 23) rfl))) (notFace_of_selects (args := #[]) (mvT hZ (hw _ (List.mem_of_getElem? (i := 25) rfl)))) (mvT hZ (hw _ (List.mem_of_getElem? (i := 25) rfl))) (mvT hZ (hw _ (List.mem_of_getElem? (i := 24) rfl))) (by decide) (backOf (W := 0) (rmT l Z a0 hw [] b182 (0 : Int32) (1 : Int32) (1 : Int32) (0 : Int32) w0 w1 w2 w1 T186.heap n0 Z188 G0_186 G1_186 G2_186 G3_186 (S0.ext O188.2) (S1.ext O188.2) (S2.ext O188.2) (by simp [towF])) hZ (hw _ (List.mem_of_getElem? (i := 26) rfl)) (hw _ (List.mem_of_getElem? (i := 2) rfl)) (by decide) (by decide)) q190a q190c (g := (mkF m 74 #[.val (.int p1), .val (.int (0 : Int32)), .val (.int (1 : Int32)), .val (.int (1 : Int32)), .val (.int (0 : Int32)), .val (.ref b182), .unset, .unset, .unset, .unset, .unset] [(.ref b182)])) rfl (by rw [hml]; rfl) (Steps.refl _) (argsL := []) (rest := []) (lenOf pdL_1 rfl) rfl (by show 2 * 0 + _ ≤ _; exact Nat.le_of_eq rfl) (hb hby at_74) (fun _ _ => ⟨rfl, rfl, (by decide : 1 + 0 ≤ _), (by decide : 4 + 0 ≤ _)⟩)
          dsimp only [Pt.U, Pt.locs, Pt.cells, Pt.slots] at X190 l190 y190 z190 st190 hQ190
          subst l190 y190 z190
          obtain ⟨rfl, N190q, hq190⟩ := hQ190
          have N190 := Fr.app N186 N190q
          have pre191 : Go p e below T190 (mkF m 77 #[.val (.int p1), .val (.int (0 : Int32)), .val (.int (1 : Int32)), .val (.int (1 : Int32)), .val (.int (0 : Int32)), .val (.ref b182), .unset, .unset, .unset, .unset, .unset] [(.ref w1)]) s₁ (entryFrame m #[(.int p1)] maxLocals) := fun t k => pre189 t (st190.trans k)
          have e190 : T190.heap = T186.heap := hq190
          have pre192 : Go p e below T190 (mkF m 80 #[.val (.int p1), .val (.int (0 : Int32)), .val (.int (1 : Int32)), .val (.int (1 : Int32)), .val (.int (0 : Int32)), .val (.ref b182), .val (.ref w1), .unset, .unset, .unset, .unset] [(.int (0 : Int32))]) s₁ (entryFrame m #[(.int p1)] maxLocals) := fun t k => pre191 t (by
              show Steps p.tables e below (T190.setTop (mkF m 77 #[.val (.int p1), .val (.int (0 : Int32)), .val (.int (1 : Int32)), .val (.int (1 : Int32)), .val (.int (0 : Int32)), .val (.ref b182), .unset, .unset, .unset, .unset, .unset] [(.ref w1)])) t
              refine XS.astore X190.here hx rfl (hb hby at_77) rfl rfl (l' := #[.val (.int p1), .val (.int (0 : Int32)), .val (.int (1 : Int32)), .val (.int (1 : Int32)), .val (.int (0 : Int32)), .val (.ref b182), .val (.ref w1), .unset, .unset, .unset, .unset]) rfl ?_
              show Steps p.tables e below (T190.setTop (mkF m 79 #[.val (.int p1), .val (.int (0 : Int32)), .val (.int (1 : Int32)), .val (.int (1 : Int32)), .val (.int (0 : Int32)), .val (.ref b182), .val (.ref w1), .unset, .unset, .unset, .unset] [])) t
              refine XS.iloadN X190.here hx rfl (hb hby at_79) rfl ?_
              exact k)
          have pre193 : Go p e below T190 (mkF m 92 #[.val (.int p1), .val (.int (0 : Int32)), .val (.int (1 : Int32)), .val (.int (1 : Int32)), .val (.int (0 : Int32)), .val (.ref b182), .val (.ref w1), .unset, .unset, .unset, .unset] []) s₁ (entryFrame m #[(.int p1)] maxLocals) := fun t k => pre192 t (XS.ifYes X190.here hx rfl (pc0 := 80) (pc' := 92) rfl (hb hby at_80) rfl ((if0 _ _).trans (teq (by decide : (0 : Int32) = (0 : Int32))).1) (by decide) (by decide) k)
          have pre194 : Go p e below T190 (mkF m 96 #[.val (.int p1), .val (.int (0 : Int32)), .val (.int (1 : Int32)), .val (.int (1 : Int32)), .val (.int (0 : Int32)), .val (.ref b182), .val (.ref w1), .val (.int (0 : Int32)), .unset, .unset, .unset] [(.int (1 : Int32))]) s₁ (entryFrame m #[(.int p1)] maxLocals) := fun t k => pre193 t (by
              show Steps p.tables e below (T190.setTop (mkF m 92 #[.val (.int p1), .val (.int (0 : Int32)), .val (.int (1 : Int32)), .val (.int (1 : Int32)), .val (.int (0 : Int32)), .val (.ref b182), .val (.ref w1), .unset, .unset, .unset, .unset] [])) t
              refine XS.iconst X190.here hx rfl (hb hby at_92) ?_
              show Steps p.tables e below (T190.setTop (mkF m 93 #[.val (.int p1), .val (.int (0 : Int32)), .val (.int (1 : Int32)), .val (.int (1 : Int32)), .val (.int (0 : Int32)), .val (.ref b182), .val (.ref w1), .unset, .unset, .unset, .unset] [(.int (0 : Int32))])) t
              refine XS.istore X190.here hx rfl (hb hby at_93) rfl (l' := #[.val (.int p1), .val (.int (0 : Int32)), .val (.int (1 : Int32)), .val (.int (1 : Int32)), .val (.int (0 : Int32)), .val (.ref b182), .val (.ref w1), .val (.int (0 : Int32)), .unset, .unset, .unset]) rfl ?_
              show Steps p.tables e below (T190.setTop (mkF m 95 #[.val (.int p1), .val (.int (0 : Int32)), .val (.int (1 : Int32)), .val (.int (1 : Int32)), .val (.int (0 : Int32)), .val (.ref b182), .val (.ref w1), .val (.int (0 : Int32)), .unset, .unset, .unset] [])) t
              refine XS.iloadN X190.here hx rfl (hb hby at_95) rfl ?_
              exact k)
          have pre195 : Go p e below T190 (mkF m 99 #[.val (.int p1), .val (.int (0 : Int32)), .val (.int (1 : Int32)), .val (.int (1 : Int32)), .val (.int (0 : Int32)), .val (.ref b182), .val (.ref w1), .val (.int (0 : Int32)), .unset, .unset, .unset] []) s₁ (entryFrame m #[(.int p1)] maxLocals) := fun t k => pre194 t (XS.ifNo X190.here hx rfl (hb hby at_96) rfl ((if0 _ _).trans (feq (by decide : ¬ ((1 : Int32) = (0 : Int32)))).1) k)
          have pre196 : Go p e below T190 (mkF m 100 #[.val (.int p1), .val (.int (0 : Int32)), .val (.int (1 : Int32)), .val (.int (1 : Int32)), .val (.int (0 : Int32)), .val (.ref b182), .val (.ref w1), .val (.int (0 : Int32)), .unset, .unset, .unset] [(.int (1 : Int32))]) s₁ (entryFrame m #[(.int p1)] maxLocals) := fun t k => pre195 t (by
              show Steps p.tables e below (T190.setTop (mkF m 99 #[.val (.int p1), .val (.int (0 : Int32)), .val (.int (1 : Int32)), .val (.int (1 : Int32)), .val (.int (0 : Int32)), .val (.ref b182), .val (.ref w1), .val (.int (0 : Int32)), .unset, .unset, .unset] [])) t
              refine XS.iloadN X190.here hx rfl (hb hby at_99) rfl ?_
              exact k)
          have pre197 : Go p e below T190 (mkF m 103 #[.val (.int p1), .val (.int (0 : Int32)), .val (.int (1 : Int32)), .val (.int (1 : Int32)), .val (.int (0 : Int32)), .val (.ref b182), .val (.ref w1), .val (.int (0 : Int32)), .unset, .unset, .unset] []) s₁ (entryFrame m #[(.int p1)] maxLocals) := fun t k => pre196 t (XS.ifNo X190.here hx rfl (hb hby at_100) rfl ((if0 _ _).trans (feq (by decide : ¬ ((1 : Int32) = (0 : Int32)))).1) k)
          have pre198 : Go p e below T190 (mkF m 119 #[.val (.int p1), .val (.int (0 : Int32)), .val (.int (1 : Int32)), .val (.int (1 : Int32)), .val (.int (0 : Int32)), .val (.ref b182), .val (.ref w1), .val (.int (0 : Int32)), .val (.int (1 : Int32)), .val (.int (-1 : Int32)), .unset] [(.int (-1 : Int32))]) s₁ (entryFrame m #[(.int p1)] maxLocals) := fun t k => pre197 t (by
              show Steps p.tables e below (T190.setTop (mkF m 103 #[.val (.int p1), .val (.int (0 : Int32)), .val (.int (1 : Int32)), .val (.int (1 : Int32)), .val (.int (0 : Int32)), .val (.ref b182), .val (.ref w1), .val (.int (0 : Int32)), .unset, .unset, .unset] [])) t
              refine XS.iconst X190.here hx rfl (hb hby at_103) ?_
              show Steps p.tables e below (T190.setTop (mkF m 104 #[.val (.int p1), .val (.int (0 : Int32)), .val (.int (1 : Int32)), .val (.int (1 : Int32)), .val (.int (0 : Int32)), .val (.ref b182), .val (.ref w1), .val (.int (0 : Int32)), .unset, .unset, .unset] [(.int (1 : Int32))])) t
              refine XS.goto X190.here hx rfl (pc0 := 104) (pc' := 108) rfl (hb hby at_104) (by decide) (by decide) ?_
              show Steps p.tables e below (T190.setTop (mkF m 108 #[.val (.int p1), .val (.int (0 : Int32)), .val (.int (1 : Int32)), .val (.int (1 : Int32)), .val (.int (0 : Int32)), .val (.ref b182), .val (.ref w1), .val (.int (0 : Int32)), .unset, .unset, .unset] [(.int (1 : Int32))])) t
              refine XS.istore X190.here hx rfl (hb hby at_108) rfl (l' := #[.val (.int p1), .val (.int (0 : Int32)), .val (.int (1 : Int32)), .val (.int (1 : Int32)), .val (.int (0 : Int32)), .val (.ref b182), .val (.ref w1), .val (.int (0 : Int32)), .val (.int (1 : Int32)), .unset, .unset]) rfl ?_
              show Steps p.tables e below (T190.setTop (mkF m 110 #[.val (.int p1), .val (.int (0 : Int32)), .val (.int (1 : Int32)), .val (.int (1 : Int32)), .val (.int (0 : Int32)), .val (.ref b182), .val (.ref w1), .val (.int (0 : Int32)), .val (.int (1 : Int32)), .unset, .unset] [])) t
              refine XS.iload X190.here hx rfl (hb hby at_110) rfl ?_
              show Steps p.tables e below (T190.setTop (mkF m 112 #[.val (.int p1), .val (.int (0 : Int32)), .val (.int (1 : Int32)), .val (.int (1 : Int32)), .val (.int (0 : Int32)), .val (.ref b182), .val (.ref w1), .val (.int (0 : Int32)), .val (.int (1 : Int32)), .unset, .unset] [(.int (0 : Int32))])) t
              refine XS.iload X190.here hx rfl (hb hby at_112) rfl ?_
              show Steps p.tables e below (T190.setTop (mkF m 114 #[.val (.int p1), .val (.int (0 : Int32)), .val (.int (1 : Int32)), .val (.int (1 : Int32)), .val (.int (0 : Int32)), .val (.ref b182), .val (.ref w1), .val (.int (0 : Int32)), .val (.int (1 : Int32)), .unset, .unset] [(.int (1 : Int32)), (.int (0 : Int32))])) t
              refine XS.isub X190.here hx rfl (hb hby at_114) rfl ?_
              show Steps p.tables e below (T190.setTop (mkF m 115 #[.val (.int p1), .val (.int (0 : Int32)), .val (.int (1 : Int32)), .val (.int (1 : Int32)), .val (.int (0 : Int32)), .val (.ref b182), .val (.ref w1), .val (.int (0 : Int32)), .val (.int (1 : Int32)), .unset, .unset] [(.int (-1 : Int32))])) t
              refine XS.istore X190.here hx rfl (hb hby at_115) rfl (l' := #[.val (.int p1), .val (.int (0 : Int32)), .val (.int (1 : Int32)), .val (.int (1 : Int32)), .val (.int (0 : Int32)), .val (.ref b182), .val (.ref w1), .val (.int (0 : Int32)), .val (.int (1 : Int32)), .val (.int (-1 : Int32)), .unset]) rfl ?_
              show Steps p.tables e below (T190.setTop (mkF m 117 #[.val (.int p1), .val (.int (0 : Int32)), .val (.int (1 : Int32)), .val (.int (1 : Int32)), .val (.int (0 : Int32)), .val (.ref b182), .val (.ref w1), .val (.int (0 : Int32)), .val (.int (1 : Int32)), .val (.int (-1 : Int32)), .unset] [])) t
              refine XS.iload X190.here hx rfl (hb hby at_117) rfl ?_
              exact k)
          have pre199 : Go p e below T190 (mkF m 130 #[.val (.int p1), .val (.int (0 : Int32)), .val (.int (1 : Int32)), .val (.int (1 : Int32)), .val (.int (0 : Int32)), .val (.ref b182), .val (.ref w1), .val (.int (0 : Int32)), .val (.int (1 : Int32)), .val (.int (-1 : Int32)), .unset] []) s₁ (entryFrame m #[(.int p1)] maxLocals) := fun t k => pre198 t (XS.ifYes X190.here hx rfl (pc0 := 119) (pc' := 130) rfl (hb hby at_119) rfl ((if0 _ _).trans (flt (by decide : ¬ ((0 : Int32) < (-1 : Int32)))).2.2.2) (by decide) (by decide) k)
          have pre200 : Go p e below T190 (mkF m 132 #[.val (.int p1), .val (.int (0 : Int32)), .val (.int (1 : Int32)), .val (.int (1 : Int32)), .val (.int (0 : Int32)), .val (.ref b182), .val (.ref w1), .val (.int (0 : Int32)), .val (.int (1 : Int32)), .val (.int (-1 : Int32)), .unset] [(.int (-1 : Int32))]) s₁ (entryFrame m #[(.int p1)] maxLocals) := fun t k => pre199 t (by
              show Steps p.tables e below (T190.setTop (mkF m 130 #[.val (.int p1), .val (.int (0 : Int32)), .val (.int (1 : Int32)), .val (.int (1 : Int32)), .val (.int (0 : Int32)), .val (.ref b182), .val (.ref w1), .val (.int (0 : Int32)), .val (.int (1 : Int32)), .val (.int (-1 : Int32)), .unset] [])) t
              refine XS.iload X190.here hx rfl (hb hby at_130) rfl ?_
              exact k)
          have pre201 : Go p e below T190 (mkF m 135 #[.val (.int p1), .val (.int (0 : Int32)), .val (.int (1 : Int32)), .val (.int (1 : Int32)), .val (.int (0 : Int32)), .val (.ref b182), .val (.ref w1), .val (.int (0 : Int32)), .val (.int (1 : Int32)), .val (.int (-1 : Int32)), .unset] []) s₁ (entryFrame m #[(.int p1)] maxLocals) := fun t k => pre200 t (XS.ifNo X190.here hx rfl (hb hby at_132) rfl ((if0 _ _).trans (tlt (by decide : (-1 : Int32) < (0 : Int32))).2.1) k)
          obtain ⟨T202, X202, e202, st202⟩ := getS2 X190 hx hZ hown (host := "") (Or.inl (hw _ (List.mem_of_getElem? (i := 33) rfl))) Via.refl e190 (S1.ext O188.2) (g := (mkF m 135 #[.val (.int p1), .val (.int (0 : Int32)), .val (.int (1 : Int32)), .val (.int (1 : Int32)), .val (.int (0 : Int32)), .val (.ref b182), .val (.ref w1), .val (.int (0 : Int32)), .val (.int (1 : Int32)), .val (.int (-1 : Int32)), .unset] [])) rfl (hb hby at_135)
          have pre203 : Go p e below T202 (mkF m 138 #[.val (.int p1), .val (.int (0 : Int32)), .val (.int (1 : Int32)), .val (.int (1 : Int32)), .val (.int (0 : Int32)), .val (.ref b182), .val (.ref w1), .val (.int (0 : Int32)), .val (.int (1 : Int32)), .val (.int (-1 : Int32)), .unset] [(.ref w1)]) s₁ (entryFrame m #[(.int p1)] maxLocals) := fun t k => pre201 t (st202 t k)
          have pre204 : Go p e below T202 (mkF m 152 #[.val (.int p1), .val (.int (0 : Int32)), .val (.int (1 : Int32)), .val (.int (1 : Int32)), .val (.int (0 : Int32)), .val (.ref b182), .val (.ref w1), .val (.int (0 : Int32)), .val (.int (1 : Int32)), .val (.int (-1 : Int32)), .val (.ref w1)] [(.ref w1), (.ref w1)]) s₁ (entryFrame m #[(.int p1)] maxLocals) := fun t k => pre203 t (by
              show Steps p.tables e below (T202.setTop (mkF m 138 #[.val (.int p1), .val (.int (0 : Int32)), .val (.int (1 : Int32)), .val (.int (1 : Int32)), .val (.int (0 : Int32)), .val (.ref b182), .val (.ref w1), .val (.int (0 : Int32)), .val (.int (1 : Int32)), .val (.int (-1 : Int32)), .unset] [(.ref w1)])) t
              refine XS.astore X202.here hx rfl (hb hby at_138) rfl rfl (l' := #[.val (.int p1), .val (.int (0 : Int32)), .val (.int (1 : Int32)), .val (.int (1 : Int32)), .val (.int (0 : Int32)), .val (.ref b182), .val (.ref w1), .val (.int (0 : Int32)), .val (.int (1 : Int32)), .val (.int (-1 : Int32)), .val (.ref w1)]) rfl ?_
              show Steps p.tables e below (T202.setTop (mkF m 140 #[.val (.int p1), .val (.int (0 : Int32)), .val (.int (1 : Int32)), .val (.int (1 : Int32)), .val (.int (0 : Int32)), .val (.ref b182), .val (.ref w1), .val (.int (0 : Int32)), .val (.int (1 : Int32)), .val (.int (-1 : Int32)), .val (.ref w1)] [])) t
              refine XS.goto X202.here hx rfl (pc0 := 140) (pc' := 148) rfl (hb hby at_140) (by decide) (by decide) ?_
              show Steps p.tables e below (T202.setTop (mkF m 148 #[.val (.int p1), .val (.int (0 : Int32)), .val (.int (1 : Int32)), .val (.int (1 : Int32)), .val (.int (0 : Int32)), .val (.ref b182), .val (.ref w1), .val (.int (0 : Int32)), .val (.int (1 : Int32)), .val (.int (-1 : Int32)), .val (.ref w1)] [])) t
              refine XS.aload X202.here hx rfl (hb hby at_148) rfl rfl ?_
              show Steps p.tables e below (T202.setTop (mkF m 150 #[.val (.int p1), .val (.int (0 : Int32)), .val (.int (1 : Int32)), .val (.int (1 : Int32)), .val (.int (0 : Int32)), .val (.ref b182), .val (.ref w1), .val (.int (0 : Int32)), .val (.int (1 : Int32)), .val (.int (-1 : Int32)), .val (.ref w1)] [(.ref w1)])) t
              refine XS.aload X202.here hx rfl (hb hby at_150) rfl rfl ?_
              exact k)
          have pre205 : Go p e below T202 (mkF m 155 #[.val (.int p1), .val (.int (0 : Int32)), .val (.int (1 : Int32)), .val (.int (1 : Int32)), .val (.int (0 : Int32)), .val (.ref b182), .val (.ref w1), .val (.int (0 : Int32)), .val (.int (1 : Int32)), .val (.int (-1 : Int32)), .val (.ref w1)] []) s₁ (entryFrame m #[(.int p1)] maxLocals) := fun t k => pre204 t (Jvm.RoadKit.acmp (g := (mkF m 152 #[.val (.int p1), .val (.int (0 : Int32)), .val (.int (1 : Int32)), .val (.int (1 : Int32)), .val (.int (0 : Int32)), .val (.ref b182), .val (.ref w1), .val (.int (0 : Int32)), .val (.int (1 : Int32)), .val (.int (-1 : Int32)), .val (.ref w1)] [(.ref w1), (.ref w1)])) X202 hx rfl rfl rfl (pc0 := 152) (pc' := 155) (same := true) rfl (hb hby at_152) rfl (decide_eq_true rfl) (by decide) (by decide) k)
          have pre206 : Go p e below T202 (mkF m 160 #[.val (.int p1), .val (.int (0 : Int32)), .val (.int (1 : Int32)), .val (.int (1 : Int32)), .val (.int (0 : Int32)), .val (.ref b182), .val (.ref w1), .val (.int (0 : Int32)), .val (.int (1 : Int32)), .val (.int (-1 : Int32)), .val (.ref w1)] [(.int (1 : Int32))]) s₁ (entryFrame m #[(.int p1)] maxLocals) := fun t k => pre205 t (by
              show Steps p.tables e below (T202.setTop (mkF m 155 #[.val (.int p1), .val (.int (0 : Int32)), .val (.int (1 : Int32)), .val (.int (1 : Int32)), .val (.int (0 : Int32)), .val (.ref b182), .val (.ref w1), .val (.int (0 : Int32)), .val (.int (1 : Int32)), .val (.int (-1 : Int32)), .val (.ref w1)] [])) t
              refine XS.iconst X202.here hx rfl (hb hby at_155) ?_
              show Steps p.tables e below (T202.setTop (mkF m 156 #[.val (.int p1), .val (.int (0 : Int32)), .val (.int (1 : Int32)), .val (.int (1 : Int32)), .val (.int (0 : Int32)), .val (.ref b182), .val (.ref w1), .val (.int (0 : Int32)), .val (.int (1 : Int32)), .val (.int (-1 : Int32)), .val (.ref w1)] [(.int (1 : Int32))])) t
              refine XS.goto X202.here hx rfl (pc0 := 156) (pc' := 160) rfl (hb hby at_156) (by decide) (by decide) ?_
              exact k)
          have hnr : Value.int (nar .boolean (1 : Int32)) = (.int (1 : Int32)) := by rfl
          obtain ⟨fs, hr, hrun, hended, hW, hsame⟩ := X202.leave (v := some (.int (1 : Int32))) (fun h => by rw [Bd.returns] at h; cases h)
          refine ⟨_, _, pre206 _ (retN X202 hx (t := .boolean) Bd.returns (by simp) (hb hby at_160) (hnr ▸ hr)), hrun, hended, _, _, rfl, ?_, ⟨_, rfl⟩, hW, hsame.mono (by decide) (by decide)⟩
          show QL Z p1 w0 w1 w2 h0 n0 _ T202.heap _
          rw [e202]
          exact ⟨rfl, N190⟩
        · have pre207 : Go p e below s₁ (mkF m 47 #[.val (.int p1), .val (.int (0 : Int32)), .val (.int (1 : Int32)), .val (.int (1 : Int32)), .unset, .unset, .unset, .unset, .unset, .unset, .unset] []) s₁ (entryFrame m #[(.int p1)] maxLocals) := fun t k => pre179 t (XS.ifNo X0.here hx rfl (hb hby at_44) rfl ((if0 _ _).trans (feq hc44).1) k)
          have pre208 : Go p e below s₁ (mkF m 48 #[.val (.int p1), .val (.int (0 : Int32)), .val (.int (1 : Int32)), .val (.int (1 : Int32)), .unset, .unset, .unset, .unset, .unset, .unset, .unset] [(.int (1 : Int32))]) s₁ (entryFrame m #[(.int p1)] maxLocals) := fun t k => pre207 t (by
              show Steps p.tables e below (s₁.setTop (mkF m 47 #[.val (.int p1), .val (.int (0 : Int32)), .val (.int (1 : Int32)), .val (.int (1 : Int32)), .unset, .unset, .unset, .unset, .unset, .unset, .unset] [])) t
              refine XS.iloadN X0.here hx rfl (hb hby at_47) rfl ?_
              exact k)
          have pre209 : Go p e below s₁ (mkF m 55 #[.val (.int p1), .val (.int (0 : Int32)), .val (.int (1 : Int32)), .val (.int (1 : Int32)), .unset, .unset, .unset, .unset, .unset, .unset, .unset] []) s₁ (entryFrame m #[(.int p1)] maxLocals) := fun t k => pre208 t (XS.ifYes X0.here hx rfl (pc0 := 48) (pc' := 55) rfl (hb hby at_48) rfl ((if0 _ _).trans (feq (by decide : ¬ ((1 : Int32) = (0 : Int32)))).2) (by decide) (by decide) k)
          have pre210 : Go p e below s₁ (mkF m 58 #[.val (.int p1), .val (.int (0 : Int32)), .val (.int (1 : Int32)), .val (.int (1 : Int32)), .val (.int (0 : Int32)), .unset, .unset, .unset, .unset, .unset, .unset] []) s₁ (entryFrame m #[(.int p1)] maxLocals) := fun t k => pre209 t (by
              show Steps p.tables e below (s₁.setTop (mkF m 55 #[.val (.int p1), .val (.int (0 : Int32)), .val (.int (1 : Int32)), .val (.int (1 : Int32)), .unset, .unset, .unset, .unset, .unset, .unset, .unset] [])) t
              refine XS.iconst X0.here hx rfl (hb hby at_55) ?_
              show Steps p.tables e below (s₁.setTop (mkF m 56 #[.val (.int p1), .val (.int (0 : Int32)), .val (.int (1 : Int32)), .val (.int (1 : Int32)), .unset, .unset, .unset, .unset, .unset, .unset, .unset] [(.int (0 : Int32))])) t
              refine XS.istore X0.here hx rfl (hb hby at_56) rfl (l' := #[.val (.int p1), .val (.int (0 : Int32)), .val (.int (1 : Int32)), .val (.int (1 : Int32)), .val (.int (0 : Int32)), .unset, .unset, .unset, .unset, .unset, .unset]) rfl ?_
              exact k)
          obtain ⟨T211, h211, X211, e211, E211, A211, D211, U211, st211⟩ := newO X0 hx hZ hown (hw _ (List.mem_of_getElem? (i := 0) rfl)) (hw _ (List.mem_of_getElem? (i := 1) rfl)) (hw _ (List.mem_of_getElem? (i := 2) rfl)) e0 (g := (mkF m 58 #[.val (.int p1), .val (.int (0 : Int32)), .val (.int (1 : Int32)), .val (.int (1 : Int32)), .val (.int (0 : Int32)), .unset, .unset, .unset, .unset, .unset, .unset] [])) rfl (hb hby at_58) (by decide) (by decide)
          obtain ⟨b211, g211⟩ : ∃ z, z = h0.size := ⟨_, rfl⟩
          rw [← g211] at A211 st211 D211
          have g_b211 : n0 ≤ b211 := Nat.le_trans Z0 (Nat.le_of_eq g211.symm)
          have pre212 : Go p e below T211 (mkF m 61 #[.val (.int p1), .val (.int (0 : Int32)), .val (.int (1 : Int32)), .val (.int (1 : Int32)), .val (.int (0 : Int32)), .unset, .unset, .unset, .unset, .unset, .unset] [(.ref b211)]) s₁ (entryFrame m #[(.int p1)] maxLocals) := fun t k => pre210 t (st211 t k)
          have O213 : Old Z n0 h211 := O0.ext E211
          have Z213 : n0 ≤ h211.size := Nat.le_trans Z0 E211.1
          have F_seesLeft_b211 : Fld Z h211 b211 "com/example/picketline/picketline/protocol/Surroundings" "seesLeft" "Z" (.int (0 : Int32)) := D211 (Or.inr (hw _ (List.mem_of_getElem? (i := 15) rfl))) (ty := .boolean) (by decide)
          have F_seesRight_b211 : Fld Z h211 b211 "com/example/picketline/picketline/protocol/Surroundings" "seesRight" "Z" (.int (0 : Int32)) := D211 (Or.inr (hw _ (List.mem_of_getElem? (i := 17) rfl))) (ty := .boolean) (by decide)
          have F_gapLeft_b211 : Fld Z h211 b211 "com/example/picketline/picketline/protocol/Surroundings" "gapLeft" "Z" (.int (0 : Int32)) := D211 (Or.inr (hw _ (List.mem_of_getElem? (i := 19) rfl))) (ty := .boolean) (by decide)
          have F_gapRight_b211 : Fld Z h211 b211 "com/example/picketline/picketline/protocol/Surroundings" "gapRight" "Z" (.int (0 : Int32)) := D211 (Or.inr (hw _ (List.mem_of_getElem? (i := 21) rfl))) (ty := .boolean) (by decide)
          have pre214 : Go p e below T211 (mkF m 67 #[.val (.int p1), .val (.int (0 : Int32)), .val (.int (1 : Int32)), .val (.int (1 : Int32)), .val (.int (0 : Int32)), .unset, .unset, .unset, .unset, .unset, .unset] [(.int (0 : Int32)), (.int (1 : Int32)), (.int (1 : Int32)), (.int (0 : Int32)), (.ref b211), (.ref b211)]) s₁ (entryFrame m #[(.int p1)] maxLocals) := fun t k => pre212 t (by
              show Steps p.tables e below (T211.setTop (mkF m 61 #[.val (.int p1), .val (.int (0 : Int32)), .val (.int (1 : Int32)), .val (.int (1 : Int32)), .val (.int (0 : Int32)), .unset, .unset, .unset, .unset, .unset, .unset] [(.ref b211)])) t
              refine XS.dup X211.here hx rfl (hb hby at_61) rfl rfl ?_
              show Steps p.tables e below (T211.setTop (mkF m 62 #[.val (.int p1), .val (.int (0 : Int32)), .val (.int (1 : Int32)), .val (.int (1 : Int32)), .val (.int (0 : Int32)), .unset, .unset, .unset, .unset, .unset, .unset] [(.ref b211), (.ref b211)])) t
              refine XS.iloadN X211.here hx rfl (hb hby at_62) rfl ?_
              show Steps p.tables e below (T211.setTop (mkF m 63 #[.val (.int p1), .val (.int (0 : Int32)), .val (.int (1 : Int32)), .val (.int (1 : Int32)), .val (.int (0 : Int32)), .unset, .unset, .unset, .unset, .unset, .unset] [(.int (0 : Int32)), (.ref b211), (.ref b211)])) t
              refine XS.iloadN X211.here hx rfl (hb hby at_63) rfl ?_
              show Steps p.tables e below (T211.setTop (mkF m 64 #[.val (.int p1), .val (.int (0 : Int32)), .val (.int (1 : Int32)), .val (.int (1 : Int32)), .val (.int (0 : Int32)), .unset, .unset, .unset, .unset, .unset, .unset] [(.int (1 : Int32)), (.int (0 : Int32)), (.ref b211), (.ref b211)])) t
              refine XS.iloadN X211.here hx rfl (hb hby at_64) rfl ?_
              show Steps p.tables e below (T211.setTop (mkF m 65 #[.val (.int p1), .val (.int (0 : Int32)), .val (.int (1 : Int32)), .val (.int (1 : Int32)), .val (.int (0 : Int32)), .unset, .unset, .unset, .unset, .unset, .unset] [(.int (1 : Int32)), (.int (1 : Int32)), (.int (0 : Int32)), (.ref b211), (.ref b211)])) t
              refine XS.iload X211.here hx rfl (hb hby at_65) rfl ?_
              exact k)
          obtain ⟨_, _, ⟨T215, L215, k215, n215⟩, -, X215, ⟨Lc215, hQ215, l215, y215, z215⟩, st215⟩ := X211.specialBack hx (y := (⟨"com/example/picketline/picketline/protocol/Surroundings", "<init>", "(ZZZZ)V"⟩ : MethodName)) rfl hown (mvT hZ (hw _ (List.mem_of_getElem? (i := 3) rfl))) (mvT hZ (hw _ (List.mem_of_getElem? (i := 4) rfl))) (mvT hZ (hw _ (List.mem_of_getElem? (i := 5) rfl))) (by decide) (backOf (W := 1) (rmC l Z a0 hw [] b211 (0 : Int32) (1 : Int32) (1 : Int32) (0 : Int32) h211 n0 Z213 A211 g_b211 F_seesLeft_b211 F_seesRight_b211 F_gapLeft_b211 F_gapRight_b211 rfl rfl rfl rfl rfl rfl rfl rfl) hZ (hw _ (List.mem_of_getElem? (i := 5) rfl)) (hw _ (List.mem_of_getElem? (i := 2) rfl)) (by decide) (by decide)) (g := (mkF m 67 #[.val (.int p1), .val (.int (0 : Int32)), .val (.int (1 : Int32)), .val (.int (1 : Int32)), .val (.int (0 : Int32)), .unset, .unset, .unset, .unset, .unset, .unset] [(.int (0 : Int32)), (.int (1 : Int32)), (.int (1 : Int32)), (.int (0 : Int32)), (.ref b211), (.ref b211)])) rfl (by rw [hml]; rfl) (Steps.refl _) (a := b211) (argsL := [(.int (0 : Int32)), (.int (1 : Int32)), (.int (1 : Int32)), (.int (0 : Int32))]) (rest := [(.ref b211)]) (lenOf pdL_0 rfl) rfl (by show 2 * 0 + _ ≤ _; exact Nat.le_of_eq rfl) (hb hby at_67) (fun _ _ => ⟨rfl, e211, (by decide : 1 + 0 ≤ _), (by decide : 4 + 0 ≤ _)⟩)
          dsimp only [Pt.U, Pt.locs, Pt.cells, Pt.slots] at X215 l215 y215 z215 st215 hQ215
          subst l215 y215 z215
          obtain ⟨rfl, N215q, K215, EX215, G0_215, G1_215, G2_215, G3_215⟩ := hQ215
          have N215 := Fr.app N0 N215q
          have pre216 : Go p e below T215 (mkF m 70 #[.val (.int p1), .val (.int (0 : Int32)), .val (.int (1 : Int32)), .val (.int (1 : Int32)), .val (.int (0 : Int32)), .unset, .unset, .unset, .unset, .unset, .unset] [(.ref b211)]) s₁ (entryFrame m #[(.int p1)] maxLocals) := fun t k => pre214 t (st215.trans k)
          have O217 : Old Z n0 T215.heap := O213.keep K215 (allS g_b211 all0)
          have Z217 : n0 ≤ T215.heap.size := Nat.le_trans Z213 K215.1
          have pre218 : Go p e below T215 (mkF m 74 #[.val (.int p1), .val (.int (0 : Int32)), .val (.int (1 : Int32)), .val (.int (1 : Int32)), .val (.int (0 : Int32)), .val (.ref b211), .unset, .unset, .unset, .unset, .unset] [(.ref b211)]) s₁ (entryFrame m #[(.int p1)] maxLocals) := fun t k => pre216 t (by
              show Steps p.tables e below (T215.setTop (mkF m 70 #[.val (.int p1), .val (.int (0 : Int32)), .val (.int (1 : Int32)), .val (.int (1 : Int32)), .val (.int (0 : Int32)), .unset, .unset, .unset, .unset, .unset, .unset] [(.ref b211)])) t
              refine XS.astore X215.here hx rfl (hb hby at_70) rfl rfl (l' := #[.val (.int p1), .val (.int (0 : Int32)), .val (.int (1 : Int32)), .val (.int (1 : Int32)), .val (.int (0 : Int32)), .val (.ref b211), .unset, .unset, .unset, .unset, .unset]) rfl ?_
              show Steps p.tables e below (T215.setTop (mkF m 72 #[.val (.int p1), .val (.int (0 : Int32)), .val (.int (1 : Int32)), .val (.int (1 : Int32)), .val (.int (0 : Int32)), .val (.ref b211), .unset, .unset, .unset, .unset, .unset] [])) t
              refine XS.aload X215.here hx rfl (hb hby at_72) rfl rfl ?_
              exact k)
          obtain ⟨cq219, kq219, q219a, q219b, q219c⟩ := isOf hZ rfl EX215
          obtain ⟨_, _, ⟨T219, L219, k219, n219⟩, -, X219, ⟨Lc219, hQ219, l219, y219, z219⟩, st219⟩ := X215.virtualBack hx (y := (⟨"com/example/picketline/picketline/protocol/Surroundings", "towardGap", "()Lcom/example/picketline/picketline/protocol/Heading;"⟩ : MethodName)) (z := (⟨"com/example/picketline/picketline/protocol/Surroundings", "towardGap", "()Lcom/example/picketline/picketline/protocol/Heading;"⟩ : MethodName)) hown (mvT hZ (hw _ (List.mem_of_getElem? (i := 22) rfl))) (mvT hZ (hw _ (List.mem_of_getElem? (i := 23) rfl))) (notFace_of_selects (args := #[]) (mvT hZ (hw _ (List.mem_of_getElem? (i := 25) rfl)))) (mvT hZ (hw _ (List.mem_of_getElem? (i := 25) rfl))) (mvT hZ (hw _ (List.mem_of_getElem? (i := 24) rfl))) (by decide) (backOf (W := 0) (rmT l Z a0 hw [] b211 (0 : Int32) (1 : Int32) (1 : Int32) (0 : Int32) w0 w1 w2 w1 T215.heap n0 Z217 G0_215 G1_215 G2_215 G3_215 (S0.ext O217.2) (S1.ext O217.2) (S2.ext O217.2) (by simp [towF])) hZ (hw _ (List.mem_of_getElem? (i := 26) rfl)) (hw _ (List.mem_of_getElem? (i := 2) rfl)) (by decide) (by decide)) q219a q219c (g := (mkF m 74 #[.val (.int p1), .val (.int (0 : Int32)), .val (.int (1 : Int32)), .val (.int (1 : Int32)), .val (.int (0 : Int32)), .val (.ref b211), .unset, .unset, .unset, .unset, .unset] [(.ref b211)])) rfl (by rw [hml]; rfl) (Steps.refl _) (argsL := []) (rest := []) (lenOf pdL_1 rfl) rfl (by show 2 * 0 + _ ≤ _; exact Nat.le_of_eq rfl) (hb hby at_74) (fun _ _ => ⟨rfl, rfl, (by decide : 1 + 0 ≤ _), (by decide : 4 + 0 ≤ _)⟩)
          dsimp only [Pt.U, Pt.locs, Pt.cells, Pt.slots] at X219 l219 y219 z219 st219 hQ219
          subst l219 y219 z219
          obtain ⟨rfl, N219q, hq219⟩ := hQ219
          have N219 := Fr.app N215 N219q
          have pre220 : Go p e below T219 (mkF m 77 #[.val (.int p1), .val (.int (0 : Int32)), .val (.int (1 : Int32)), .val (.int (1 : Int32)), .val (.int (0 : Int32)), .val (.ref b211), .unset, .unset, .unset, .unset, .unset] [(.ref w1)]) s₁ (entryFrame m #[(.int p1)] maxLocals) := fun t k => pre218 t (st219.trans k)
          have e219 : T219.heap = T215.heap := hq219
          have pre221 : Go p e below T219 (mkF m 80 #[.val (.int p1), .val (.int (0 : Int32)), .val (.int (1 : Int32)), .val (.int (1 : Int32)), .val (.int (0 : Int32)), .val (.ref b211), .val (.ref w1), .unset, .unset, .unset, .unset] [(.int (0 : Int32))]) s₁ (entryFrame m #[(.int p1)] maxLocals) := fun t k => pre220 t (by
              show Steps p.tables e below (T219.setTop (mkF m 77 #[.val (.int p1), .val (.int (0 : Int32)), .val (.int (1 : Int32)), .val (.int (1 : Int32)), .val (.int (0 : Int32)), .val (.ref b211), .unset, .unset, .unset, .unset, .unset] [(.ref w1)])) t
              refine XS.astore X219.here hx rfl (hb hby at_77) rfl rfl (l' := #[.val (.int p1), .val (.int (0 : Int32)), .val (.int (1 : Int32)), .val (.int (1 : Int32)), .val (.int (0 : Int32)), .val (.ref b211), .val (.ref w1), .unset, .unset, .unset, .unset]) rfl ?_
              show Steps p.tables e below (T219.setTop (mkF m 79 #[.val (.int p1), .val (.int (0 : Int32)), .val (.int (1 : Int32)), .val (.int (1 : Int32)), .val (.int (0 : Int32)), .val (.ref b211), .val (.ref w1), .unset, .unset, .unset, .unset] [])) t
              refine XS.iloadN X219.here hx rfl (hb hby at_79) rfl ?_
              exact k)
          have pre222 : Go p e below T219 (mkF m 92 #[.val (.int p1), .val (.int (0 : Int32)), .val (.int (1 : Int32)), .val (.int (1 : Int32)), .val (.int (0 : Int32)), .val (.ref b211), .val (.ref w1), .unset, .unset, .unset, .unset] []) s₁ (entryFrame m #[(.int p1)] maxLocals) := fun t k => pre221 t (XS.ifYes X219.here hx rfl (pc0 := 80) (pc' := 92) rfl (hb hby at_80) rfl ((if0 _ _).trans (teq (by decide : (0 : Int32) = (0 : Int32))).1) (by decide) (by decide) k)
          have pre223 : Go p e below T219 (mkF m 96 #[.val (.int p1), .val (.int (0 : Int32)), .val (.int (1 : Int32)), .val (.int (1 : Int32)), .val (.int (0 : Int32)), .val (.ref b211), .val (.ref w1), .val (.int (0 : Int32)), .unset, .unset, .unset] [(.int (1 : Int32))]) s₁ (entryFrame m #[(.int p1)] maxLocals) := fun t k => pre222 t (by
              show Steps p.tables e below (T219.setTop (mkF m 92 #[.val (.int p1), .val (.int (0 : Int32)), .val (.int (1 : Int32)), .val (.int (1 : Int32)), .val (.int (0 : Int32)), .val (.ref b211), .val (.ref w1), .unset, .unset, .unset, .unset] [])) t
              refine XS.iconst X219.here hx rfl (hb hby at_92) ?_
              show Steps p.tables e below (T219.setTop (mkF m 93 #[.val (.int p1), .val (.int (0 : Int32)), .val (.int (1 : Int32)), .val (.int (1 : Int32)), .val (.int (0 : Int32)), .val (.ref b211), .val (.ref w1), .unset, .unset, .unset, .unset] [(.int (0 : Int32))])) t
              refine XS.istore X219.here hx rfl (hb hby at_93) rfl (l' := #[.val (.int p1), .val (.int (0 : Int32)), .val (.int (1 : Int32)), .val (.int (1 : Int32)), .val (.int (0 : Int32)), .val (.ref b211), .val (.ref w1), .val (.int (0 : Int32)), .unset, .unset, .unset]) rfl ?_
              show Steps p.tables e below (T219.setTop (mkF m 95 #[.val (.int p1), .val (.int (0 : Int32)), .val (.int (1 : Int32)), .val (.int (1 : Int32)), .val (.int (0 : Int32)), .val (.ref b211), .val (.ref w1), .val (.int (0 : Int32)), .unset, .unset, .unset] [])) t
              refine XS.iloadN X219.here hx rfl (hb hby at_95) rfl ?_
              exact k)
          have pre224 : Go p e below T219 (mkF m 99 #[.val (.int p1), .val (.int (0 : Int32)), .val (.int (1 : Int32)), .val (.int (1 : Int32)), .val (.int (0 : Int32)), .val (.ref b211), .val (.ref w1), .val (.int (0 : Int32)), .unset, .unset, .unset] []) s₁ (entryFrame m #[(.int p1)] maxLocals) := fun t k => pre223 t (XS.ifNo X219.here hx rfl (hb hby at_96) rfl ((if0 _ _).trans (feq (by decide : ¬ ((1 : Int32) = (0 : Int32)))).1) k)
          have pre225 : Go p e below T219 (mkF m 100 #[.val (.int p1), .val (.int (0 : Int32)), .val (.int (1 : Int32)), .val (.int (1 : Int32)), .val (.int (0 : Int32)), .val (.ref b211), .val (.ref w1), .val (.int (0 : Int32)), .unset, .unset, .unset] [(.int (1 : Int32))]) s₁ (entryFrame m #[(.int p1)] maxLocals) := fun t k => pre224 t (by
              show Steps p.tables e below (T219.setTop (mkF m 99 #[.val (.int p1), .val (.int (0 : Int32)), .val (.int (1 : Int32)), .val (.int (1 : Int32)), .val (.int (0 : Int32)), .val (.ref b211), .val (.ref w1), .val (.int (0 : Int32)), .unset, .unset, .unset] [])) t
              refine XS.iloadN X219.here hx rfl (hb hby at_99) rfl ?_
              exact k)
          have pre226 : Go p e below T219 (mkF m 103 #[.val (.int p1), .val (.int (0 : Int32)), .val (.int (1 : Int32)), .val (.int (1 : Int32)), .val (.int (0 : Int32)), .val (.ref b211), .val (.ref w1), .val (.int (0 : Int32)), .unset, .unset, .unset] []) s₁ (entryFrame m #[(.int p1)] maxLocals) := fun t k => pre225 t (XS.ifNo X219.here hx rfl (hb hby at_100) rfl ((if0 _ _).trans (feq (by decide : ¬ ((1 : Int32) = (0 : Int32)))).1) k)
          have pre227 : Go p e below T219 (mkF m 119 #[.val (.int p1), .val (.int (0 : Int32)), .val (.int (1 : Int32)), .val (.int (1 : Int32)), .val (.int (0 : Int32)), .val (.ref b211), .val (.ref w1), .val (.int (0 : Int32)), .val (.int (1 : Int32)), .val (.int (-1 : Int32)), .unset] [(.int (-1 : Int32))]) s₁ (entryFrame m #[(.int p1)] maxLocals) := fun t k => pre226 t (by
              show Steps p.tables e below (T219.setTop (mkF m 103 #[.val (.int p1), .val (.int (0 : Int32)), .val (.int (1 : Int32)), .val (.int (1 : Int32)), .val (.int (0 : Int32)), .val (.ref b211), .val (.ref w1), .val (.int (0 : Int32)), .unset, .unset, .unset] [])) t
              refine XS.iconst X219.here hx rfl (hb hby at_103) ?_
              show Steps p.tables e below (T219.setTop (mkF m 104 #[.val (.int p1), .val (.int (0 : Int32)), .val (.int (1 : Int32)), .val (.int (1 : Int32)), .val (.int (0 : Int32)), .val (.ref b211), .val (.ref w1), .val (.int (0 : Int32)), .unset, .unset, .unset] [(.int (1 : Int32))])) t
              refine XS.goto X219.here hx rfl (pc0 := 104) (pc' := 108) rfl (hb hby at_104) (by decide) (by decide) ?_
              show Steps p.tables e below (T219.setTop (mkF m 108 #[.val (.int p1), .val (.int (0 : Int32)), .val (.int (1 : Int32)), .val (.int (1 : Int32)), .val (.int (0 : Int32)), .val (.ref b211), .val (.ref w1), .val (.int (0 : Int32)), .unset, .unset, .unset] [(.int (1 : Int32))])) t
              refine XS.istore X219.here hx rfl (hb hby at_108) rfl (l' := #[.val (.int p1), .val (.int (0 : Int32)), .val (.int (1 : Int32)), .val (.int (1 : Int32)), .val (.int (0 : Int32)), .val (.ref b211), .val (.ref w1), .val (.int (0 : Int32)), .val (.int (1 : Int32)), .unset, .unset]) rfl ?_
              show Steps p.tables e below (T219.setTop (mkF m 110 #[.val (.int p1), .val (.int (0 : Int32)), .val (.int (1 : Int32)), .val (.int (1 : Int32)), .val (.int (0 : Int32)), .val (.ref b211), .val (.ref w1), .val (.int (0 : Int32)), .val (.int (1 : Int32)), .unset, .unset] [])) t
              refine XS.iload X219.here hx rfl (hb hby at_110) rfl ?_
              show Steps p.tables e below (T219.setTop (mkF m 112 #[.val (.int p1), .val (.int (0 : Int32)), .val (.int (1 : Int32)), .val (.int (1 : Int32)), .val (.int (0 : Int32)), .val (.ref b211), .val (.ref w1), .val (.int (0 : Int32)), .val (.int (1 : Int32)), .unset, .unset] [(.int (0 : Int32))])) t
              refine XS.iload X219.here hx rfl (hb hby at_112) rfl ?_
              show Steps p.tables e below (T219.setTop (mkF m 114 #[.val (.int p1), .val (.int (0 : Int32)), .val (.int (1 : Int32)), .val (.int (1 : Int32)), .val (.int (0 : Int32)), .val (.ref b211), .val (.ref w1), .val (.int (0 : Int32)), .val (.int (1 : Int32)), .unset, .unset] [(.int (1 : Int32)), (.int (0 : Int32))])) t
              refine XS.isub X219.here hx rfl (hb hby at_114) rfl ?_
              show Steps p.tables e below (T219.setTop (mkF m 115 #[.val (.int p1), .val (.int (0 : Int32)), .val (.int (1 : Int32)), .val (.int (1 : Int32)), .val (.int (0 : Int32)), .val (.ref b211), .val (.ref w1), .val (.int (0 : Int32)), .val (.int (1 : Int32)), .unset, .unset] [(.int (-1 : Int32))])) t
              refine XS.istore X219.here hx rfl (hb hby at_115) rfl (l' := #[.val (.int p1), .val (.int (0 : Int32)), .val (.int (1 : Int32)), .val (.int (1 : Int32)), .val (.int (0 : Int32)), .val (.ref b211), .val (.ref w1), .val (.int (0 : Int32)), .val (.int (1 : Int32)), .val (.int (-1 : Int32)), .unset]) rfl ?_
              show Steps p.tables e below (T219.setTop (mkF m 117 #[.val (.int p1), .val (.int (0 : Int32)), .val (.int (1 : Int32)), .val (.int (1 : Int32)), .val (.int (0 : Int32)), .val (.ref b211), .val (.ref w1), .val (.int (0 : Int32)), .val (.int (1 : Int32)), .val (.int (-1 : Int32)), .unset] [])) t
              refine XS.iload X219.here hx rfl (hb hby at_117) rfl ?_
              exact k)
          have pre228 : Go p e below T219 (mkF m 130 #[.val (.int p1), .val (.int (0 : Int32)), .val (.int (1 : Int32)), .val (.int (1 : Int32)), .val (.int (0 : Int32)), .val (.ref b211), .val (.ref w1), .val (.int (0 : Int32)), .val (.int (1 : Int32)), .val (.int (-1 : Int32)), .unset] []) s₁ (entryFrame m #[(.int p1)] maxLocals) := fun t k => pre227 t (XS.ifYes X219.here hx rfl (pc0 := 119) (pc' := 130) rfl (hb hby at_119) rfl ((if0 _ _).trans (flt (by decide : ¬ ((0 : Int32) < (-1 : Int32)))).2.2.2) (by decide) (by decide) k)
          have pre229 : Go p e below T219 (mkF m 132 #[.val (.int p1), .val (.int (0 : Int32)), .val (.int (1 : Int32)), .val (.int (1 : Int32)), .val (.int (0 : Int32)), .val (.ref b211), .val (.ref w1), .val (.int (0 : Int32)), .val (.int (1 : Int32)), .val (.int (-1 : Int32)), .unset] [(.int (-1 : Int32))]) s₁ (entryFrame m #[(.int p1)] maxLocals) := fun t k => pre228 t (by
              show Steps p.tables e below (T219.setTop (mkF m 130 #[.val (.int p1), .val (.int (0 : Int32)), .val (.int (1 : Int32)), .val (.int (1 : Int32)), .val (.int (0 : Int32)), .val (.ref b211), .val (.ref w1), .val (.int (0 : Int32)), .val (.int (1 : Int32)), .val (.int (-1 : Int32)), .unset] [])) t
              refine XS.iload X219.here hx rfl (hb hby at_130) rfl ?_
              exact k)
          have pre230 : Go p e below T219 (mkF m 135 #[.val (.int p1), .val (.int (0 : Int32)), .val (.int (1 : Int32)), .val (.int (1 : Int32)), .val (.int (0 : Int32)), .val (.ref b211), .val (.ref w1), .val (.int (0 : Int32)), .val (.int (1 : Int32)), .val (.int (-1 : Int32)), .unset] []) s₁ (entryFrame m #[(.int p1)] maxLocals) := fun t k => pre229 t (XS.ifNo X219.here hx rfl (hb hby at_132) rfl ((if0 _ _).trans (tlt (by decide : (-1 : Int32) < (0 : Int32))).2.1) k)
          obtain ⟨T231, X231, e231, st231⟩ := getS2 X219 hx hZ hown (host := "") (Or.inl (hw _ (List.mem_of_getElem? (i := 33) rfl))) Via.refl e219 (S1.ext O217.2) (g := (mkF m 135 #[.val (.int p1), .val (.int (0 : Int32)), .val (.int (1 : Int32)), .val (.int (1 : Int32)), .val (.int (0 : Int32)), .val (.ref b211), .val (.ref w1), .val (.int (0 : Int32)), .val (.int (1 : Int32)), .val (.int (-1 : Int32)), .unset] [])) rfl (hb hby at_135)
          have pre232 : Go p e below T231 (mkF m 138 #[.val (.int p1), .val (.int (0 : Int32)), .val (.int (1 : Int32)), .val (.int (1 : Int32)), .val (.int (0 : Int32)), .val (.ref b211), .val (.ref w1), .val (.int (0 : Int32)), .val (.int (1 : Int32)), .val (.int (-1 : Int32)), .unset] [(.ref w1)]) s₁ (entryFrame m #[(.int p1)] maxLocals) := fun t k => pre230 t (st231 t k)
          have pre233 : Go p e below T231 (mkF m 152 #[.val (.int p1), .val (.int (0 : Int32)), .val (.int (1 : Int32)), .val (.int (1 : Int32)), .val (.int (0 : Int32)), .val (.ref b211), .val (.ref w1), .val (.int (0 : Int32)), .val (.int (1 : Int32)), .val (.int (-1 : Int32)), .val (.ref w1)] [(.ref w1), (.ref w1)]) s₁ (entryFrame m #[(.int p1)] maxLocals) := fun t k => pre232 t (by
              show Steps p.tables e below (T231.setTop (mkF m 138 #[.val (.int p1), .val (.int (0 : Int32)), .val (.int (1 : Int32)), .val (.int (1 : Int32)), .val (.int (0 : Int32)), .val (.ref b211), .val (.ref w1), .val (.int (0 : Int32)), .val (.int (1 : Int32)), .val (.int (-1 : Int32)), .unset] [(.ref w1)])) t
              refine XS.astore X231.here hx rfl (hb hby at_138) rfl rfl (l' := #[.val (.int p1), .val (.int (0 : Int32)), .val (.int (1 : Int32)), .val (.int (1 : Int32)), .val (.int (0 : Int32)), .val (.ref b211), .val (.ref w1), .val (.int (0 : Int32)), .val (.int (1 : Int32)), .val (.int (-1 : Int32)), .val (.ref w1)]) rfl ?_
              show Steps p.tables e below (T231.setTop (mkF m 140 #[.val (.int p1), .val (.int (0 : Int32)), .val (.int (1 : Int32)), .val (.int (1 : Int32)), .val (.int (0 : Int32)), .val (.ref b211), .val (.ref w1), .val (.int (0 : Int32)), .val (.int (1 : Int32)), .val (.int (-1 : Int32)), .val (.ref w1)] [])) t
              refine XS.goto X231.here hx rfl (pc0 := 140) (pc' := 148) rfl (hb hby at_140) (by decide) (by decide) ?_
              show Steps p.tables e below (T231.setTop (mkF m 148 #[.val (.int p1), .val (.int (0 : Int32)), .val (.int (1 : Int32)), .val (.int (1 : Int32)), .val (.int (0 : Int32)), .val (.ref b211), .val (.ref w1), .val (.int (0 : Int32)), .val (.int (1 : Int32)), .val (.int (-1 : Int32)), .val (.ref w1)] [])) t
              refine XS.aload X231.here hx rfl (hb hby at_148) rfl rfl ?_
              show Steps p.tables e below (T231.setTop (mkF m 150 #[.val (.int p1), .val (.int (0 : Int32)), .val (.int (1 : Int32)), .val (.int (1 : Int32)), .val (.int (0 : Int32)), .val (.ref b211), .val (.ref w1), .val (.int (0 : Int32)), .val (.int (1 : Int32)), .val (.int (-1 : Int32)), .val (.ref w1)] [(.ref w1)])) t
              refine XS.aload X231.here hx rfl (hb hby at_150) rfl rfl ?_
              exact k)
          have pre234 : Go p e below T231 (mkF m 155 #[.val (.int p1), .val (.int (0 : Int32)), .val (.int (1 : Int32)), .val (.int (1 : Int32)), .val (.int (0 : Int32)), .val (.ref b211), .val (.ref w1), .val (.int (0 : Int32)), .val (.int (1 : Int32)), .val (.int (-1 : Int32)), .val (.ref w1)] []) s₁ (entryFrame m #[(.int p1)] maxLocals) := fun t k => pre233 t (Jvm.RoadKit.acmp (g := (mkF m 152 #[.val (.int p1), .val (.int (0 : Int32)), .val (.int (1 : Int32)), .val (.int (1 : Int32)), .val (.int (0 : Int32)), .val (.ref b211), .val (.ref w1), .val (.int (0 : Int32)), .val (.int (1 : Int32)), .val (.int (-1 : Int32)), .val (.ref w1)] [(.ref w1), (.ref w1)])) X231 hx rfl rfl rfl (pc0 := 152) (pc' := 155) (same := true) rfl (hb hby at_152) rfl (decide_eq_true rfl) (by decide) (by decide) k)
          have pre235 : Go p e below T231 (mkF m 160 #[.val (.int p1), .val (.int (0 : Int32)), .val (.int (1 : Int32)), .val (.int (1 : Int32)), .val (.int (0 : Int32)), .val (.ref b211), .val (.ref w1), .val (.int (0 : Int32)), .val (.int (1 : Int32)), .val (.int (-1 : Int32)), .val (.ref w1)] [(.int (1 : Int32))]) s₁ (entryFrame m #[(.int p1)] maxLocals) := fun t k => pre234 t (by
              show Steps p.tables e below (T231.setTop (mkF m 155 #[.val (.int p1), .val (.int (0 : Int32)), .val (.int (1 : Int32)), .val (.int (1 : Int32)), .val (.int (0 : Int32)), .val (.ref b211), .val (.ref w1), .val (.int (0 : Int32)), .val (.int (1 : Int32)), .val (.int (-1 : Int32)), .val (.ref w1)] [])) t
              refine XS.iconst X231.here hx rfl (hb hby at_155) ?_
              show Steps p.tables e below (T231.setTop (mkF m 156 #[.val (.int p1), .val (.int (0 : Int32)), .val (.int (1 : Int32)), .val (.int (1 : Int32)), .val (.int (0 : Int32)), .val (.ref b211), .val (.ref w1), .val (.int (0 : Int32)), .val (.int (1 : Int32)), .val (.int (-1 : Int32)), .val (.ref w1)] [(.int (1 : Int32))])) t
              refine XS.goto X231.here hx rfl (pc0 := 156) (pc' := 160) rfl (hb hby at_156) (by decide) (by decide) ?_
              exact k)
          have hnr : Value.int (nar .boolean (1 : Int32)) = (.int (1 : Int32)) := by rfl
          obtain ⟨fs, hr, hrun, hended, hW, hsame⟩ := X231.leave (v := some (.int (1 : Int32))) (fun h => by rw [Bd.returns] at h; cases h)
          refine ⟨_, _, pre235 _ (retN X231 hx (t := .boolean) Bd.returns (by simp) (hb hby at_160) (hnr ▸ hr)), hrun, hended, _, _, rfl, ?_, ⟨_, rfl⟩, hW, hsame.mono (by decide) (by decide)⟩
          show QL Z p1 w0 w1 w2 h0 n0 _ T231.heap _
          rw [e231]
          exact ⟨rfl, N219⟩
  · have pre236 : Go p e below s₁ (mkF m 6 #[.val (.int p1), .unset, .unset, .unset, .unset, .unset, .unset, .unset, .unset, .unset, .unset] []) s₁ (entryFrame m #[(.int p1)] maxLocals) := fun t k => pre1 t (XS.ifNo X0.here hx rfl (hb hby at_3) rfl ((if0 _ _).trans (feq hc3).1) k)
    have pre237 : Go p e below s₁ (mkF m 15 #[.val (.int p1), .val (.int (1 : Int32)), .unset, .unset, .unset, .unset, .unset, .unset, .unset, .unset, .unset] [(.int (p1 &&& (2 : Int32)))]) s₁ (entryFrame m #[(.int p1)] maxLocals) := fun t k => pre236 t (by
        show Steps p.tables e below (s₁.setTop (mkF m 6 #[.val (.int p1), .unset, .unset, .unset, .unset, .unset, .unset, .unset, .unset, .unset, .unset] [])) t
        refine XS.iconst X0.here hx rfl (hb hby at_6) ?_
        show Steps p.tables e below (s₁.setTop (mkF m 7 #[.val (.int p1), .unset, .unset, .unset, .unset, .unset, .unset, .unset, .unset, .unset, .unset] [(.int (1 : Int32))])) t
        refine XS.goto X0.here hx rfl (pc0 := 7) (pc' := 11) rfl (hb hby at_7) (by decide) (by decide) ?_
        show Steps p.tables e below (s₁.setTop (mkF m 11 #[.val (.int p1), .unset, .unset, .unset, .unset, .unset, .unset, .unset, .unset, .unset, .unset] [(.int (1 : Int32))])) t
        refine XS.istoreN X0.here hx rfl (hb hby at_11) rfl (l' := #[.val (.int p1), .val (.int (1 : Int32)), .unset, .unset, .unset, .unset, .unset, .unset, .unset, .unset, .unset]) rfl ?_
        show Steps p.tables e below (s₁.setTop (mkF m 12 #[.val (.int p1), .val (.int (1 : Int32)), .unset, .unset, .unset, .unset, .unset, .unset, .unset, .unset, .unset] [])) t
        refine XS.iloadN X0.here hx rfl (hb hby at_12) rfl ?_
        show Steps p.tables e below (s₁.setTop (mkF m 13 #[.val (.int p1), .val (.int (1 : Int32)), .unset, .unset, .unset, .unset, .unset, .unset, .unset, .unset, .unset] [(.int p1)])) t
        refine XS.iconst X0.here hx rfl (hb hby at_13) ?_
        show Steps p.tables e below (s₁.setTop (mkF m 14 #[.val (.int p1), .val (.int (1 : Int32)), .unset, .unset, .unset, .unset, .unset, .unset, .unset, .unset, .unset] [(.int (2 : Int32)), (.int p1)])) t
        refine XS.iand X0.here hx rfl (hb hby at_14) rfl ?_
        exact k)
    by_cases hc15 : (p1 &&& (2 : Int32)) = (0 : Int32)
    · have pre238 : Go p e below s₁ (mkF m 22 #[.val (.int p1), .val (.int (1 : Int32)), .unset, .unset, .unset, .unset, .unset, .unset, .unset, .unset, .unset] []) s₁ (entryFrame m #[(.int p1)] maxLocals) := fun t k => pre237 t (XS.ifYes X0.here hx rfl (pc0 := 15) (pc' := 22) rfl (hb hby at_15) rfl ((if0 _ _).trans (teq hc15).1) (by decide) (by decide) k)
      have pre239 : Go p e below s₁ (mkF m 27 #[.val (.int p1), .val (.int (1 : Int32)), .val (.int (0 : Int32)), .unset, .unset, .unset, .unset, .unset, .unset, .unset, .unset] [(.int (p1 &&& (4 : Int32)))]) s₁ (entryFrame m #[(.int p1)] maxLocals) := fun t k => pre238 t (by
          show Steps p.tables e below (s₁.setTop (mkF m 22 #[.val (.int p1), .val (.int (1 : Int32)), .unset, .unset, .unset, .unset, .unset, .unset, .unset, .unset, .unset] [])) t
          refine XS.iconst X0.here hx rfl (hb hby at_22) ?_
          show Steps p.tables e below (s₁.setTop (mkF m 23 #[.val (.int p1), .val (.int (1 : Int32)), .unset, .unset, .unset, .unset, .unset, .unset, .unset, .unset, .unset] [(.int (0 : Int32))])) t
          refine XS.istoreN X0.here hx rfl (hb hby at_23) rfl (l' := #[.val (.int p1), .val (.int (1 : Int32)), .val (.int (0 : Int32)), .unset, .unset, .unset, .unset, .unset, .unset, .unset, .unset]) rfl ?_
          show Steps p.tables e below (s₁.setTop (mkF m 24 #[.val (.int p1), .val (.int (1 : Int32)), .val (.int (0 : Int32)), .unset, .unset, .unset, .unset, .unset, .unset, .unset, .unset] [])) t
          refine XS.iloadN X0.here hx rfl (hb hby at_24) rfl ?_
          show Steps p.tables e below (s₁.setTop (mkF m 25 #[.val (.int p1), .val (.int (1 : Int32)), .val (.int (0 : Int32)), .unset, .unset, .unset, .unset, .unset, .unset, .unset, .unset] [(.int p1)])) t
          refine XS.iconst X0.here hx rfl (hb hby at_25) ?_
          show Steps p.tables e below (s₁.setTop (mkF m 26 #[.val (.int p1), .val (.int (1 : Int32)), .val (.int (0 : Int32)), .unset, .unset, .unset, .unset, .unset, .unset, .unset, .unset] [(.int (4 : Int32)), (.int p1)])) t
          refine XS.iand X0.here hx rfl (hb hby at_26) rfl ?_
          exact k)
      by_cases hc27 : (p1 &&& (4 : Int32)) = (0 : Int32)
      · have pre240 : Go p e below s₁ (mkF m 38 #[.val (.int p1), .val (.int (1 : Int32)), .val (.int (0 : Int32)), .unset, .unset, .unset, .unset, .unset, .unset, .unset, .unset] []) s₁ (entryFrame m #[(.int p1)] maxLocals) := fun t k => pre239 t (XS.ifYes X0.here hx rfl (pc0 := 27) (pc' := 38) rfl (hb hby at_27) rfl ((if0 _ _).trans (teq hc27).1) (by decide) (by decide) k)
        have pre241 : Go p e below s₁ (mkF m 44 #[.val (.int p1), .val (.int (1 : Int32)), .val (.int (0 : Int32)), .val (.int (0 : Int32)), .unset, .unset, .unset, .unset, .unset, .unset, .unset] [(.int (p1 &&& (8 : Int32)))]) s₁ (entryFrame m #[(.int p1)] maxLocals) := fun t k => pre240 t (by
            show Steps p.tables e below (s₁.setTop (mkF m 38 #[.val (.int p1), .val (.int (1 : Int32)), .val (.int (0 : Int32)), .unset, .unset, .unset, .unset, .unset, .unset, .unset, .unset] [])) t
            refine XS.iconst X0.here hx rfl (hb hby at_38) ?_
            show Steps p.tables e below (s₁.setTop (mkF m 39 #[.val (.int p1), .val (.int (1 : Int32)), .val (.int (0 : Int32)), .unset, .unset, .unset, .unset, .unset, .unset, .unset, .unset] [(.int (0 : Int32))])) t
            refine XS.istoreN X0.here hx rfl (hb hby at_39) rfl (l' := #[.val (.int p1), .val (.int (1 : Int32)), .val (.int (0 : Int32)), .val (.int (0 : Int32)), .unset, .unset, .unset, .unset, .unset, .unset, .unset]) rfl ?_
            show Steps p.tables e below (s₁.setTop (mkF m 40 #[.val (.int p1), .val (.int (1 : Int32)), .val (.int (0 : Int32)), .val (.int (0 : Int32)), .unset, .unset, .unset, .unset, .unset, .unset, .unset] [])) t
            refine XS.iloadN X0.here hx rfl (hb hby at_40) rfl ?_
            show Steps p.tables e below (s₁.setTop (mkF m 41 #[.val (.int p1), .val (.int (1 : Int32)), .val (.int (0 : Int32)), .val (.int (0 : Int32)), .unset, .unset, .unset, .unset, .unset, .unset, .unset] [(.int p1)])) t
            refine XS.bipush X0.here hx rfl (hb hby at_41) ?_
            show Steps p.tables e below (s₁.setTop (mkF m 43 #[.val (.int p1), .val (.int (1 : Int32)), .val (.int (0 : Int32)), .val (.int (0 : Int32)), .unset, .unset, .unset, .unset, .unset, .unset, .unset] [(.int (8 : Int32)), (.int p1)])) t
            refine XS.iand X0.here hx rfl (hb hby at_43) rfl ?_
            exact k)
        by_cases hc44 : (p1 &&& (8 : Int32)) = (0 : Int32)
        · have pre242 : Go p e below s₁ (mkF m 55 #[.val (.int p1), .val (.int (1 : Int32)), .val (.int (0 : Int32)), .val (.int (0 : Int32)), .unset, .unset, .unset, .unset, .unset, .unset, .unset] []) s₁ (entryFrame m #[(.int p1)] maxLocals) := fun t k => pre241 t (XS.ifYes X0.here hx rfl (pc0 := 44) (pc' := 55) rfl (hb hby at_44) rfl ((if0 _ _).trans (teq hc44).1) (by decide) (by decide) k)
          have pre243 : Go p e below s₁ (mkF m 58 #[.val (.int p1), .val (.int (1 : Int32)), .val (.int (0 : Int32)), .val (.int (0 : Int32)), .val (.int (0 : Int32)), .unset, .unset, .unset, .unset, .unset, .unset] []) s₁ (entryFrame m #[(.int p1)] maxLocals) := fun t k => pre242 t (by
              show Steps p.tables e below (s₁.setTop (mkF m 55 #[.val (.int p1), .val (.int (1 : Int32)), .val (.int (0 : Int32)), .val (.int (0 : Int32)), .unset, .unset, .unset, .unset, .unset, .unset, .unset] [])) t
              refine XS.iconst X0.here hx rfl (hb hby at_55) ?_
              show Steps p.tables e below (s₁.setTop (mkF m 56 #[.val (.int p1), .val (.int (1 : Int32)), .val (.int (0 : Int32)), .val (.int (0 : Int32)), .unset, .unset, .unset, .unset, .unset, .unset, .unset] [(.int (0 : Int32))])) t
              refine XS.istore X0.here hx rfl (hb hby at_56) rfl (l' := #[.val (.int p1), .val (.int (1 : Int32)), .val (.int (0 : Int32)), .val (.int (0 : Int32)), .val (.int (0 : Int32)), .unset, .unset, .unset, .unset, .unset, .unset]) rfl ?_
              exact k)
          obtain ⟨T244, h244, X244, e244, E244, A244, D244, U244, st244⟩ := newO X0 hx hZ hown (hw _ (List.mem_of_getElem? (i := 0) rfl)) (hw _ (List.mem_of_getElem? (i := 1) rfl)) (hw _ (List.mem_of_getElem? (i := 2) rfl)) e0 (g := (mkF m 58 #[.val (.int p1), .val (.int (1 : Int32)), .val (.int (0 : Int32)), .val (.int (0 : Int32)), .val (.int (0 : Int32)), .unset, .unset, .unset, .unset, .unset, .unset] [])) rfl (hb hby at_58) (by decide) (by decide)
          obtain ⟨b244, g244⟩ : ∃ z, z = h0.size := ⟨_, rfl⟩
          rw [← g244] at A244 st244 D244
          have g_b244 : n0 ≤ b244 := Nat.le_trans Z0 (Nat.le_of_eq g244.symm)
          have pre245 : Go p e below T244 (mkF m 61 #[.val (.int p1), .val (.int (1 : Int32)), .val (.int (0 : Int32)), .val (.int (0 : Int32)), .val (.int (0 : Int32)), .unset, .unset, .unset, .unset, .unset, .unset] [(.ref b244)]) s₁ (entryFrame m #[(.int p1)] maxLocals) := fun t k => pre243 t (st244 t k)
          have O246 : Old Z n0 h244 := O0.ext E244
          have Z246 : n0 ≤ h244.size := Nat.le_trans Z0 E244.1
          have F_seesLeft_b244 : Fld Z h244 b244 "com/example/picketline/picketline/protocol/Surroundings" "seesLeft" "Z" (.int (0 : Int32)) := D244 (Or.inr (hw _ (List.mem_of_getElem? (i := 15) rfl))) (ty := .boolean) (by decide)
          have F_seesRight_b244 : Fld Z h244 b244 "com/example/picketline/picketline/protocol/Surroundings" "seesRight" "Z" (.int (0 : Int32)) := D244 (Or.inr (hw _ (List.mem_of_getElem? (i := 17) rfl))) (ty := .boolean) (by decide)
          have F_gapLeft_b244 : Fld Z h244 b244 "com/example/picketline/picketline/protocol/Surroundings" "gapLeft" "Z" (.int (0 : Int32)) := D244 (Or.inr (hw _ (List.mem_of_getElem? (i := 19) rfl))) (ty := .boolean) (by decide)
          have F_gapRight_b244 : Fld Z h244 b244 "com/example/picketline/picketline/protocol/Surroundings" "gapRight" "Z" (.int (0 : Int32)) := D244 (Or.inr (hw _ (List.mem_of_getElem? (i := 21) rfl))) (ty := .boolean) (by decide)
          have pre247 : Go p e below T244 (mkF m 67 #[.val (.int p1), .val (.int (1 : Int32)), .val (.int (0 : Int32)), .val (.int (0 : Int32)), .val (.int (0 : Int32)), .unset, .unset, .unset, .unset, .unset, .unset] [(.int (0 : Int32)), (.int (0 : Int32)), (.int (0 : Int32)), (.int (1 : Int32)), (.ref b244), (.ref b244)]) s₁ (entryFrame m #[(.int p1)] maxLocals) := fun t k => pre245 t (by
              show Steps p.tables e below (T244.setTop (mkF m 61 #[.val (.int p1), .val (.int (1 : Int32)), .val (.int (0 : Int32)), .val (.int (0 : Int32)), .val (.int (0 : Int32)), .unset, .unset, .unset, .unset, .unset, .unset] [(.ref b244)])) t
              refine XS.dup X244.here hx rfl (hb hby at_61) rfl rfl ?_
              show Steps p.tables e below (T244.setTop (mkF m 62 #[.val (.int p1), .val (.int (1 : Int32)), .val (.int (0 : Int32)), .val (.int (0 : Int32)), .val (.int (0 : Int32)), .unset, .unset, .unset, .unset, .unset, .unset] [(.ref b244), (.ref b244)])) t
              refine XS.iloadN X244.here hx rfl (hb hby at_62) rfl ?_
              show Steps p.tables e below (T244.setTop (mkF m 63 #[.val (.int p1), .val (.int (1 : Int32)), .val (.int (0 : Int32)), .val (.int (0 : Int32)), .val (.int (0 : Int32)), .unset, .unset, .unset, .unset, .unset, .unset] [(.int (1 : Int32)), (.ref b244), (.ref b244)])) t
              refine XS.iloadN X244.here hx rfl (hb hby at_63) rfl ?_
              show Steps p.tables e below (T244.setTop (mkF m 64 #[.val (.int p1), .val (.int (1 : Int32)), .val (.int (0 : Int32)), .val (.int (0 : Int32)), .val (.int (0 : Int32)), .unset, .unset, .unset, .unset, .unset, .unset] [(.int (0 : Int32)), (.int (1 : Int32)), (.ref b244), (.ref b244)])) t
              refine XS.iloadN X244.here hx rfl (hb hby at_64) rfl ?_
              show Steps p.tables e below (T244.setTop (mkF m 65 #[.val (.int p1), .val (.int (1 : Int32)), .val (.int (0 : Int32)), .val (.int (0 : Int32)), .val (.int (0 : Int32)), .unset, .unset, .unset, .unset, .unset, .unset] [(.int (0 : Int32)), (.int (0 : Int32)), (.int (1 : Int32)), (.ref b244), (.ref b244)])) t
              refine XS.iload X244.here hx rfl (hb hby at_65) rfl ?_
              exact k)
          obtain ⟨_, _, ⟨T248, L248, k248, n248⟩, -, X248, ⟨Lc248, hQ248, l248, y248, z248⟩, st248⟩ := X244.specialBack hx (y := (⟨"com/example/picketline/picketline/protocol/Surroundings", "<init>", "(ZZZZ)V"⟩ : MethodName)) rfl hown (mvT hZ (hw _ (List.mem_of_getElem? (i := 3) rfl))) (mvT hZ (hw _ (List.mem_of_getElem? (i := 4) rfl))) (mvT hZ (hw _ (List.mem_of_getElem? (i := 5) rfl))) (by decide) (backOf (W := 1) (rmC l Z a0 hw [] b244 (1 : Int32) (0 : Int32) (0 : Int32) (0 : Int32) h244 n0 Z246 A244 g_b244 F_seesLeft_b244 F_seesRight_b244 F_gapLeft_b244 F_gapRight_b244 rfl rfl rfl rfl rfl rfl rfl rfl) hZ (hw _ (List.mem_of_getElem? (i := 5) rfl)) (hw _ (List.mem_of_getElem? (i := 2) rfl)) (by decide) (by decide)) (g := (mkF m 67 #[.val (.int p1), .val (.int (1 : Int32)), .val (.int (0 : Int32)), .val (.int (0 : Int32)), .val (.int (0 : Int32)), .unset, .unset, .unset, .unset, .unset, .unset] [(.int (0 : Int32)), (.int (0 : Int32)), (.int (0 : Int32)), (.int (1 : Int32)), (.ref b244), (.ref b244)])) rfl (by rw [hml]; rfl) (Steps.refl _) (a := b244) (argsL := [(.int (1 : Int32)), (.int (0 : Int32)), (.int (0 : Int32)), (.int (0 : Int32))]) (rest := [(.ref b244)]) (lenOf pdL_0 rfl) rfl (by show 2 * 0 + _ ≤ _; exact Nat.le_of_eq rfl) (hb hby at_67) (fun _ _ => ⟨rfl, e244, (by decide : 1 + 0 ≤ _), (by decide : 4 + 0 ≤ _)⟩)
          dsimp only [Pt.U, Pt.locs, Pt.cells, Pt.slots] at X248 l248 y248 z248 st248 hQ248
          subst l248 y248 z248
          obtain ⟨rfl, N248q, K248, EX248, G0_248, G1_248, G2_248, G3_248⟩ := hQ248
          have N248 := Fr.app N0 N248q
          have pre249 : Go p e below T248 (mkF m 70 #[.val (.int p1), .val (.int (1 : Int32)), .val (.int (0 : Int32)), .val (.int (0 : Int32)), .val (.int (0 : Int32)), .unset, .unset, .unset, .unset, .unset, .unset] [(.ref b244)]) s₁ (entryFrame m #[(.int p1)] maxLocals) := fun t k => pre247 t (st248.trans k)
          have O250 : Old Z n0 T248.heap := O246.keep K248 (allS g_b244 all0)
          have Z250 : n0 ≤ T248.heap.size := Nat.le_trans Z246 K248.1
          have pre251 : Go p e below T248 (mkF m 74 #[.val (.int p1), .val (.int (1 : Int32)), .val (.int (0 : Int32)), .val (.int (0 : Int32)), .val (.int (0 : Int32)), .val (.ref b244), .unset, .unset, .unset, .unset, .unset] [(.ref b244)]) s₁ (entryFrame m #[(.int p1)] maxLocals) := fun t k => pre249 t (by
              show Steps p.tables e below (T248.setTop (mkF m 70 #[.val (.int p1), .val (.int (1 : Int32)), .val (.int (0 : Int32)), .val (.int (0 : Int32)), .val (.int (0 : Int32)), .unset, .unset, .unset, .unset, .unset, .unset] [(.ref b244)])) t
              refine XS.astore X248.here hx rfl (hb hby at_70) rfl rfl (l' := #[.val (.int p1), .val (.int (1 : Int32)), .val (.int (0 : Int32)), .val (.int (0 : Int32)), .val (.int (0 : Int32)), .val (.ref b244), .unset, .unset, .unset, .unset, .unset]) rfl ?_
              show Steps p.tables e below (T248.setTop (mkF m 72 #[.val (.int p1), .val (.int (1 : Int32)), .val (.int (0 : Int32)), .val (.int (0 : Int32)), .val (.int (0 : Int32)), .val (.ref b244), .unset, .unset, .unset, .unset, .unset] [])) t
              refine XS.aload X248.here hx rfl (hb hby at_72) rfl rfl ?_
              exact k)
          obtain ⟨cq252, kq252, q252a, q252b, q252c⟩ := isOf hZ rfl EX248
          obtain ⟨_, _, ⟨T252, L252, k252, n252⟩, -, X252, ⟨Lc252, hQ252, l252, y252, z252⟩, st252⟩ := X248.virtualBack hx (y := (⟨"com/example/picketline/picketline/protocol/Surroundings", "towardGap", "()Lcom/example/picketline/picketline/protocol/Heading;"⟩ : MethodName)) (z := (⟨"com/example/picketline/picketline/protocol/Surroundings", "towardGap", "()Lcom/example/picketline/picketline/protocol/Heading;"⟩ : MethodName)) hown (mvT hZ (hw _ (List.mem_of_getElem? (i := 22) rfl))) (mvT hZ (hw _ (List.mem_of_getElem? (i := 23) rfl))) (notFace_of_selects (args := #[]) (mvT hZ (hw _ (List.mem_of_getElem? (i := 25) rfl)))) (mvT hZ (hw _ (List.mem_of_getElem? (i := 25) rfl))) (mvT hZ (hw _ (List.mem_of_getElem? (i := 24) rfl))) (by decide) (backOf (W := 0) (rmT l Z a0 hw [] b244 (1 : Int32) (0 : Int32) (0 : Int32) (0 : Int32) w0 w1 w2 w0 T248.heap n0 Z250 G0_248 G1_248 G2_248 G3_248 (S0.ext O250.2) (S1.ext O250.2) (S2.ext O250.2) (by simp [towF])) hZ (hw _ (List.mem_of_getElem? (i := 26) rfl)) (hw _ (List.mem_of_getElem? (i := 2) rfl)) (by decide) (by decide)) q252a q252c (g := (mkF m 74 #[.val (.int p1), .val (.int (1 : Int32)), .val (.int (0 : Int32)), .val (.int (0 : Int32)), .val (.int (0 : Int32)), .val (.ref b244), .unset, .unset, .unset, .unset, .unset] [(.ref b244)])) rfl (by rw [hml]; rfl) (Steps.refl _) (argsL := []) (rest := []) (lenOf pdL_1 rfl) rfl (by show 2 * 0 + _ ≤ _; exact Nat.le_of_eq rfl) (hb hby at_74) (fun _ _ => ⟨rfl, rfl, (by decide : 1 + 0 ≤ _), (by decide : 4 + 0 ≤ _)⟩)
          dsimp only [Pt.U, Pt.locs, Pt.cells, Pt.slots] at X252 l252 y252 z252 st252 hQ252
          subst l252 y252 z252
          obtain ⟨rfl, N252q, hq252⟩ := hQ252
          have N252 := Fr.app N248 N252q
          have pre253 : Go p e below T252 (mkF m 77 #[.val (.int p1), .val (.int (1 : Int32)), .val (.int (0 : Int32)), .val (.int (0 : Int32)), .val (.int (0 : Int32)), .val (.ref b244), .unset, .unset, .unset, .unset, .unset] [(.ref w0)]) s₁ (entryFrame m #[(.int p1)] maxLocals) := fun t k => pre251 t (st252.trans k)
          have e252 : T252.heap = T248.heap := hq252
          have pre254 : Go p e below T252 (mkF m 80 #[.val (.int p1), .val (.int (1 : Int32)), .val (.int (0 : Int32)), .val (.int (0 : Int32)), .val (.int (0 : Int32)), .val (.ref b244), .val (.ref w0), .unset, .unset, .unset, .unset] [(.int (1 : Int32))]) s₁ (entryFrame m #[(.int p1)] maxLocals) := fun t k => pre253 t (by
              show Steps p.tables e below (T252.setTop (mkF m 77 #[.val (.int p1), .val (.int (1 : Int32)), .val (.int (0 : Int32)), .val (.int (0 : Int32)), .val (.int (0 : Int32)), .val (.ref b244), .unset, .unset, .unset, .unset, .unset] [(.ref w0)])) t
              refine XS.astore X252.here hx rfl (hb hby at_77) rfl rfl (l' := #[.val (.int p1), .val (.int (1 : Int32)), .val (.int (0 : Int32)), .val (.int (0 : Int32)), .val (.int (0 : Int32)), .val (.ref b244), .val (.ref w0), .unset, .unset, .unset, .unset]) rfl ?_
              show Steps p.tables e below (T252.setTop (mkF m 79 #[.val (.int p1), .val (.int (1 : Int32)), .val (.int (0 : Int32)), .val (.int (0 : Int32)), .val (.int (0 : Int32)), .val (.ref b244), .val (.ref w0), .unset, .unset, .unset, .unset] [])) t
              refine XS.iloadN X252.here hx rfl (hb hby at_79) rfl ?_
              exact k)
          have pre255 : Go p e below T252 (mkF m 83 #[.val (.int p1), .val (.int (1 : Int32)), .val (.int (0 : Int32)), .val (.int (0 : Int32)), .val (.int (0 : Int32)), .val (.ref b244), .val (.ref w0), .unset, .unset, .unset, .unset] []) s₁ (entryFrame m #[(.int p1)] maxLocals) := fun t k => pre254 t (XS.ifNo X252.here hx rfl (hb hby at_80) rfl ((if0 _ _).trans (feq (by decide : ¬ ((1 : Int32) = (0 : Int32)))).1) k)
          have pre256 : Go p e below T252 (mkF m 85 #[.val (.int p1), .val (.int (1 : Int32)), .val (.int (0 : Int32)), .val (.int (0 : Int32)), .val (.int (0 : Int32)), .val (.ref b244), .val (.ref w0), .unset, .unset, .unset, .unset] [(.int (0 : Int32))]) s₁ (entryFrame m #[(.int p1)] maxLocals) := fun t k => pre255 t (by
              show Steps p.tables e below (T252.setTop (mkF m 83 #[.val (.int p1), .val (.int (1 : Int32)), .val (.int (0 : Int32)), .val (.int (0 : Int32)), .val (.int (0 : Int32)), .val (.ref b244), .val (.ref w0), .unset, .unset, .unset, .unset] [])) t
              refine XS.iload X252.here hx rfl (hb hby at_83) rfl ?_
              exact k)
          have pre257 : Go p e below T252 (mkF m 92 #[.val (.int p1), .val (.int (1 : Int32)), .val (.int (0 : Int32)), .val (.int (0 : Int32)), .val (.int (0 : Int32)), .val (.ref b244), .val (.ref w0), .unset, .unset, .unset, .unset] []) s₁ (entryFrame m #[(.int p1)] maxLocals) := fun t k => pre256 t (XS.ifYes X252.here hx rfl (pc0 := 85) (pc' := 92) rfl (hb hby at_85) rfl ((if0 _ _).trans (teq (by decide : (0 : Int32) = (0 : Int32))).1) (by decide) (by decide) k)
          have pre258 : Go p e below T252 (mkF m 96 #[.val (.int p1), .val (.int (1 : Int32)), .val (.int (0 : Int32)), .val (.int (0 : Int32)), .val (.int (0 : Int32)), .val (.ref b244), .val (.ref w0), .val (.int (0 : Int32)), .unset, .unset, .unset] [(.int (0 : Int32))]) s₁ (entryFrame m #[(.int p1)] maxLocals) := fun t k => pre257 t (by
              show Steps p.tables e below (T252.setTop (mkF m 92 #[.val (.int p1), .val (.int (1 : Int32)), .val (.int (0 : Int32)), .val (.int (0 : Int32)), .val (.int (0 : Int32)), .val (.ref b244), .val (.ref w0), .unset, .unset, .unset, .unset] [])) t
              refine XS.iconst X252.here hx rfl (hb hby at_92) ?_
              show Steps p.tables e below (T252.setTop (mkF m 93 #[.val (.int p1), .val (.int (1 : Int32)), .val (.int (0 : Int32)), .val (.int (0 : Int32)), .val (.int (0 : Int32)), .val (.ref b244), .val (.ref w0), .unset, .unset, .unset, .unset] [(.int (0 : Int32))])) t
              refine XS.istore X252.here hx rfl (hb hby at_93) rfl (l' := #[.val (.int p1), .val (.int (1 : Int32)), .val (.int (0 : Int32)), .val (.int (0 : Int32)), .val (.int (0 : Int32)), .val (.ref b244), .val (.ref w0), .val (.int (0 : Int32)), .unset, .unset, .unset]) rfl ?_
              show Steps p.tables e below (T252.setTop (mkF m 95 #[.val (.int p1), .val (.int (1 : Int32)), .val (.int (0 : Int32)), .val (.int (0 : Int32)), .val (.int (0 : Int32)), .val (.ref b244), .val (.ref w0), .val (.int (0 : Int32)), .unset, .unset, .unset] [])) t
              refine XS.iloadN X252.here hx rfl (hb hby at_95) rfl ?_
              exact k)
          have pre259 : Go p e below T252 (mkF m 107 #[.val (.int p1), .val (.int (1 : Int32)), .val (.int (0 : Int32)), .val (.int (0 : Int32)), .val (.int (0 : Int32)), .val (.ref b244), .val (.ref w0), .val (.int (0 : Int32)), .unset, .unset, .unset] []) s₁ (entryFrame m #[(.int p1)] maxLocals) := fun t k => pre258 t (XS.ifYes X252.here hx rfl (pc0 := 96) (pc' := 107) rfl (hb hby at_96) rfl ((if0 _ _).trans (teq (by decide : (0 : Int32) = (0 : Int32))).1) (by decide) (by decide) k)
          have pre260 : Go p e below T252 (mkF m 119 #[.val (.int p1), .val (.int (1 : Int32)), .val (.int (0 : Int32)), .val (.int (0 : Int32)), .val (.int (0 : Int32)), .val (.ref b244), .val (.ref w0), .val (.int (0 : Int32)), .val (.int (0 : Int32)), .val (.int (0 : Int32)), .unset] [(.int (0 : Int32))]) s₁ (entryFrame m #[(.int p1)] maxLocals) := fun t k => pre259 t (by
              show Steps p.tables e below (T252.setTop (mkF m 107 #[.val (.int p1), .val (.int (1 : Int32)), .val (.int (0 : Int32)), .val (.int (0 : Int32)), .val (.int (0 : Int32)), .val (.ref b244), .val (.ref w0), .val (.int (0 : Int32)), .unset, .unset, .unset] [])) t
              refine XS.iconst X252.here hx rfl (hb hby at_107) ?_
              show Steps p.tables e below (T252.setTop (mkF m 108 #[.val (.int p1), .val (.int (1 : Int32)), .val (.int (0 : Int32)), .val (.int (0 : Int32)), .val (.int (0 : Int32)), .val (.ref b244), .val (.ref w0), .val (.int (0 : Int32)), .unset, .unset, .unset] [(.int (0 : Int32))])) t
              refine XS.istore X252.here hx rfl (hb hby at_108) rfl (l' := #[.val (.int p1), .val (.int (1 : Int32)), .val (.int (0 : Int32)), .val (.int (0 : Int32)), .val (.int (0 : Int32)), .val (.ref b244), .val (.ref w0), .val (.int (0 : Int32)), .val (.int (0 : Int32)), .unset, .unset]) rfl ?_
              show Steps p.tables e below (T252.setTop (mkF m 110 #[.val (.int p1), .val (.int (1 : Int32)), .val (.int (0 : Int32)), .val (.int (0 : Int32)), .val (.int (0 : Int32)), .val (.ref b244), .val (.ref w0), .val (.int (0 : Int32)), .val (.int (0 : Int32)), .unset, .unset] [])) t
              refine XS.iload X252.here hx rfl (hb hby at_110) rfl ?_
              show Steps p.tables e below (T252.setTop (mkF m 112 #[.val (.int p1), .val (.int (1 : Int32)), .val (.int (0 : Int32)), .val (.int (0 : Int32)), .val (.int (0 : Int32)), .val (.ref b244), .val (.ref w0), .val (.int (0 : Int32)), .val (.int (0 : Int32)), .unset, .unset] [(.int (0 : Int32))])) t
              refine XS.iload X252.here hx rfl (hb hby at_112) rfl ?_
              show Steps p.tables e below (T252.setTop (mkF m 114 #[.val (.int p1), .val (.int (1 : Int32)), .val (.int (0 : Int32)), .val (.int (0 : Int32)), .val (.int (0 : Int32)), .val (.ref b244), .val (.ref w0), .val (.int (0 : Int32)), .val (.int (0 : Int32)), .unset, .unset] [(.int (0 : Int32)), (.int (0 : Int32))])) t
              refine XS.isub X252.here hx rfl (hb hby at_114) rfl ?_
              show Steps p.tables e below (T252.setTop (mkF m 115 #[.val (.int p1), .val (.int (1 : Int32)), .val (.int (0 : Int32)), .val (.int (0 : Int32)), .val (.int (0 : Int32)), .val (.ref b244), .val (.ref w0), .val (.int (0 : Int32)), .val (.int (0 : Int32)), .unset, .unset] [(.int (0 : Int32))])) t
              refine XS.istore X252.here hx rfl (hb hby at_115) rfl (l' := #[.val (.int p1), .val (.int (1 : Int32)), .val (.int (0 : Int32)), .val (.int (0 : Int32)), .val (.int (0 : Int32)), .val (.ref b244), .val (.ref w0), .val (.int (0 : Int32)), .val (.int (0 : Int32)), .val (.int (0 : Int32)), .unset]) rfl ?_
              show Steps p.tables e below (T252.setTop (mkF m 117 #[.val (.int p1), .val (.int (1 : Int32)), .val (.int (0 : Int32)), .val (.int (0 : Int32)), .val (.int (0 : Int32)), .val (.ref b244), .val (.ref w0), .val (.int (0 : Int32)), .val (.int (0 : Int32)), .val (.int (0 : Int32)), .unset] [])) t
              refine XS.iload X252.here hx rfl (hb hby at_117) rfl ?_
              exact k)
          have pre261 : Go p e below T252 (mkF m 130 #[.val (.int p1), .val (.int (1 : Int32)), .val (.int (0 : Int32)), .val (.int (0 : Int32)), .val (.int (0 : Int32)), .val (.ref b244), .val (.ref w0), .val (.int (0 : Int32)), .val (.int (0 : Int32)), .val (.int (0 : Int32)), .unset] []) s₁ (entryFrame m #[(.int p1)] maxLocals) := fun t k => pre260 t (XS.ifYes X252.here hx rfl (pc0 := 119) (pc' := 130) rfl (hb hby at_119) rfl ((if0 _ _).trans (flt (by decide : ¬ ((0 : Int32) < (0 : Int32)))).2.2.2) (by decide) (by decide) k)
          have pre262 : Go p e below T252 (mkF m 132 #[.val (.int p1), .val (.int (1 : Int32)), .val (.int (0 : Int32)), .val (.int (0 : Int32)), .val (.int (0 : Int32)), .val (.ref b244), .val (.ref w0), .val (.int (0 : Int32)), .val (.int (0 : Int32)), .val (.int (0 : Int32)), .unset] [(.int (0 : Int32))]) s₁ (entryFrame m #[(.int p1)] maxLocals) := fun t k => pre261 t (by
              show Steps p.tables e below (T252.setTop (mkF m 130 #[.val (.int p1), .val (.int (1 : Int32)), .val (.int (0 : Int32)), .val (.int (0 : Int32)), .val (.int (0 : Int32)), .val (.ref b244), .val (.ref w0), .val (.int (0 : Int32)), .val (.int (0 : Int32)), .val (.int (0 : Int32)), .unset] [])) t
              refine XS.iload X252.here hx rfl (hb hby at_130) rfl ?_
              exact k)
          have pre263 : Go p e below T252 (mkF m 143 #[.val (.int p1), .val (.int (1 : Int32)), .val (.int (0 : Int32)), .val (.int (0 : Int32)), .val (.int (0 : Int32)), .val (.ref b244), .val (.ref w0), .val (.int (0 : Int32)), .val (.int (0 : Int32)), .val (.int (0 : Int32)), .unset] []) s₁ (entryFrame m #[(.int p1)] maxLocals) := fun t k => pre262 t (XS.ifYes X252.here hx rfl (pc0 := 132) (pc' := 143) rfl (hb hby at_132) rfl ((if0 _ _).trans (flt (by decide : ¬ ((0 : Int32) < (0 : Int32)))).2.1) (by decide) (by decide) k)
          obtain ⟨T264, X264, e264, st264⟩ := getS2 X252 hx hZ hown (host := "") (Or.inl (hw _ (List.mem_of_getElem? (i := 30) rfl))) Via.refl e252 (S0.ext O250.2) (g := (mkF m 143 #[.val (.int p1), .val (.int (1 : Int32)), .val (.int (0 : Int32)), .val (.int (0 : Int32)), .val (.int (0 : Int32)), .val (.ref b244), .val (.ref w0), .val (.int (0 : Int32)), .val (.int (0 : Int32)), .val (.int (0 : Int32)), .unset] [])) rfl (hb hby at_143)
          have pre265 : Go p e below T264 (mkF m 146 #[.val (.int p1), .val (.int (1 : Int32)), .val (.int (0 : Int32)), .val (.int (0 : Int32)), .val (.int (0 : Int32)), .val (.ref b244), .val (.ref w0), .val (.int (0 : Int32)), .val (.int (0 : Int32)), .val (.int (0 : Int32)), .unset] [(.ref w0)]) s₁ (entryFrame m #[(.int p1)] maxLocals) := fun t k => pre263 t (st264 t k)
          have pre266 : Go p e below T264 (mkF m 152 #[.val (.int p1), .val (.int (1 : Int32)), .val (.int (0 : Int32)), .val (.int (0 : Int32)), .val (.int (0 : Int32)), .val (.ref b244), .val (.ref w0), .val (.int (0 : Int32)), .val (.int (0 : Int32)), .val (.int (0 : Int32)), .val (.ref w0)] [(.ref w0), (.ref w0)]) s₁ (entryFrame m #[(.int p1)] maxLocals) := fun t k => pre265 t (by
              show Steps p.tables e below (T264.setTop (mkF m 146 #[.val (.int p1), .val (.int (1 : Int32)), .val (.int (0 : Int32)), .val (.int (0 : Int32)), .val (.int (0 : Int32)), .val (.ref b244), .val (.ref w0), .val (.int (0 : Int32)), .val (.int (0 : Int32)), .val (.int (0 : Int32)), .unset] [(.ref w0)])) t
              refine XS.astore X264.here hx rfl (hb hby at_146) rfl rfl (l' := #[.val (.int p1), .val (.int (1 : Int32)), .val (.int (0 : Int32)), .val (.int (0 : Int32)), .val (.int (0 : Int32)), .val (.ref b244), .val (.ref w0), .val (.int (0 : Int32)), .val (.int (0 : Int32)), .val (.int (0 : Int32)), .val (.ref w0)]) rfl ?_
              show Steps p.tables e below (T264.setTop (mkF m 148 #[.val (.int p1), .val (.int (1 : Int32)), .val (.int (0 : Int32)), .val (.int (0 : Int32)), .val (.int (0 : Int32)), .val (.ref b244), .val (.ref w0), .val (.int (0 : Int32)), .val (.int (0 : Int32)), .val (.int (0 : Int32)), .val (.ref w0)] [])) t
              refine XS.aload X264.here hx rfl (hb hby at_148) rfl rfl ?_
              show Steps p.tables e below (T264.setTop (mkF m 150 #[.val (.int p1), .val (.int (1 : Int32)), .val (.int (0 : Int32)), .val (.int (0 : Int32)), .val (.int (0 : Int32)), .val (.ref b244), .val (.ref w0), .val (.int (0 : Int32)), .val (.int (0 : Int32)), .val (.int (0 : Int32)), .val (.ref w0)] [(.ref w0)])) t
              refine XS.aload X264.here hx rfl (hb hby at_150) rfl rfl ?_
              exact k)
          have pre267 : Go p e below T264 (mkF m 155 #[.val (.int p1), .val (.int (1 : Int32)), .val (.int (0 : Int32)), .val (.int (0 : Int32)), .val (.int (0 : Int32)), .val (.ref b244), .val (.ref w0), .val (.int (0 : Int32)), .val (.int (0 : Int32)), .val (.int (0 : Int32)), .val (.ref w0)] []) s₁ (entryFrame m #[(.int p1)] maxLocals) := fun t k => pre266 t (Jvm.RoadKit.acmp (g := (mkF m 152 #[.val (.int p1), .val (.int (1 : Int32)), .val (.int (0 : Int32)), .val (.int (0 : Int32)), .val (.int (0 : Int32)), .val (.ref b244), .val (.ref w0), .val (.int (0 : Int32)), .val (.int (0 : Int32)), .val (.int (0 : Int32)), .val (.ref w0)] [(.ref w0), (.ref w0)])) X264 hx rfl rfl rfl (pc0 := 152) (pc' := 155) (same := true) rfl (hb hby at_152) rfl (decide_eq_true rfl) (by decide) (by decide) k)
          have pre268 : Go p e below T264 (mkF m 160 #[.val (.int p1), .val (.int (1 : Int32)), .val (.int (0 : Int32)), .val (.int (0 : Int32)), .val (.int (0 : Int32)), .val (.ref b244), .val (.ref w0), .val (.int (0 : Int32)), .val (.int (0 : Int32)), .val (.int (0 : Int32)), .val (.ref w0)] [(.int (1 : Int32))]) s₁ (entryFrame m #[(.int p1)] maxLocals) := fun t k => pre267 t (by
              show Steps p.tables e below (T264.setTop (mkF m 155 #[.val (.int p1), .val (.int (1 : Int32)), .val (.int (0 : Int32)), .val (.int (0 : Int32)), .val (.int (0 : Int32)), .val (.ref b244), .val (.ref w0), .val (.int (0 : Int32)), .val (.int (0 : Int32)), .val (.int (0 : Int32)), .val (.ref w0)] [])) t
              refine XS.iconst X264.here hx rfl (hb hby at_155) ?_
              show Steps p.tables e below (T264.setTop (mkF m 156 #[.val (.int p1), .val (.int (1 : Int32)), .val (.int (0 : Int32)), .val (.int (0 : Int32)), .val (.int (0 : Int32)), .val (.ref b244), .val (.ref w0), .val (.int (0 : Int32)), .val (.int (0 : Int32)), .val (.int (0 : Int32)), .val (.ref w0)] [(.int (1 : Int32))])) t
              refine XS.goto X264.here hx rfl (pc0 := 156) (pc' := 160) rfl (hb hby at_156) (by decide) (by decide) ?_
              exact k)
          have hnr : Value.int (nar .boolean (1 : Int32)) = (.int (1 : Int32)) := by rfl
          obtain ⟨fs, hr, hrun, hended, hW, hsame⟩ := X264.leave (v := some (.int (1 : Int32))) (fun h => by rw [Bd.returns] at h; cases h)
          refine ⟨_, _, pre268 _ (retN X264 hx (t := .boolean) Bd.returns (by simp) (hb hby at_160) (hnr ▸ hr)), hrun, hended, _, _, rfl, ?_, ⟨_, rfl⟩, hW, hsame.mono (by decide) (by decide)⟩
          show QL Z p1 w0 w1 w2 h0 n0 _ T264.heap _
          rw [e264]
          exact ⟨rfl, N252⟩
        · have pre269 : Go p e below s₁ (mkF m 47 #[.val (.int p1), .val (.int (1 : Int32)), .val (.int (0 : Int32)), .val (.int (0 : Int32)), .unset, .unset, .unset, .unset, .unset, .unset, .unset] []) s₁ (entryFrame m #[(.int p1)] maxLocals) := fun t k => pre241 t (XS.ifNo X0.here hx rfl (hb hby at_44) rfl ((if0 _ _).trans (feq hc44).1) k)
          have pre270 : Go p e below s₁ (mkF m 48 #[.val (.int p1), .val (.int (1 : Int32)), .val (.int (0 : Int32)), .val (.int (0 : Int32)), .unset, .unset, .unset, .unset, .unset, .unset, .unset] [(.int (0 : Int32))]) s₁ (entryFrame m #[(.int p1)] maxLocals) := fun t k => pre269 t (by
              show Steps p.tables e below (s₁.setTop (mkF m 47 #[.val (.int p1), .val (.int (1 : Int32)), .val (.int (0 : Int32)), .val (.int (0 : Int32)), .unset, .unset, .unset, .unset, .unset, .unset, .unset] [])) t
              refine XS.iloadN X0.here hx rfl (hb hby at_47) rfl ?_
              exact k)
          have pre271 : Go p e below s₁ (mkF m 51 #[.val (.int p1), .val (.int (1 : Int32)), .val (.int (0 : Int32)), .val (.int (0 : Int32)), .unset, .unset, .unset, .unset, .unset, .unset, .unset] []) s₁ (entryFrame m #[(.int p1)] maxLocals) := fun t k => pre270 t (XS.ifNo X0.here hx rfl (hb hby at_48) rfl ((if0 _ _).trans (teq (by decide : (0 : Int32) = (0 : Int32))).2) k)
          have pre272 : Go p e below s₁ (mkF m 58 #[.val (.int p1), .val (.int (1 : Int32)), .val (.int (0 : Int32)), .val (.int (0 : Int32)), .val (.int (1 : Int32)), .unset, .unset, .unset, .unset, .unset, .unset] []) s₁ (entryFrame m #[(.int p1)] maxLocals) := fun t k => pre271 t (by
              show Steps p.tables e below (s₁.setTop (mkF m 51 #[.val (.int p1), .val (.int (1 : Int32)), .val (.int (0 : Int32)), .val (.int (0 : Int32)), .unset, .unset, .unset, .unset, .unset, .unset, .unset] [])) t
              refine XS.iconst X0.here hx rfl (hb hby at_51) ?_
              show Steps p.tables e below (s₁.setTop (mkF m 52 #[.val (.int p1), .val (.int (1 : Int32)), .val (.int (0 : Int32)), .val (.int (0 : Int32)), .unset, .unset, .unset, .unset, .unset, .unset, .unset] [(.int (1 : Int32))])) t
              refine XS.goto X0.here hx rfl (pc0 := 52) (pc' := 56) rfl (hb hby at_52) (by decide) (by decide) ?_
              show Steps p.tables e below (s₁.setTop (mkF m 56 #[.val (.int p1), .val (.int (1 : Int32)), .val (.int (0 : Int32)), .val (.int (0 : Int32)), .unset, .unset, .unset, .unset, .unset, .unset, .unset] [(.int (1 : Int32))])) t
              refine XS.istore X0.here hx rfl (hb hby at_56) rfl (l' := #[.val (.int p1), .val (.int (1 : Int32)), .val (.int (0 : Int32)), .val (.int (0 : Int32)), .val (.int (1 : Int32)), .unset, .unset, .unset, .unset, .unset, .unset]) rfl ?_
              exact k)
          obtain ⟨T273, h273, X273, e273, E273, A273, D273, U273, st273⟩ := newO X0 hx hZ hown (hw _ (List.mem_of_getElem? (i := 0) rfl)) (hw _ (List.mem_of_getElem? (i := 1) rfl)) (hw _ (List.mem_of_getElem? (i := 2) rfl)) e0 (g := (mkF m 58 #[.val (.int p1), .val (.int (1 : Int32)), .val (.int (0 : Int32)), .val (.int (0 : Int32)), .val (.int (1 : Int32)), .unset, .unset, .unset, .unset, .unset, .unset] [])) rfl (hb hby at_58) (by decide) (by decide)
          obtain ⟨b273, g273⟩ : ∃ z, z = h0.size := ⟨_, rfl⟩
          rw [← g273] at A273 st273 D273
          have g_b273 : n0 ≤ b273 := Nat.le_trans Z0 (Nat.le_of_eq g273.symm)
          have pre274 : Go p e below T273 (mkF m 61 #[.val (.int p1), .val (.int (1 : Int32)), .val (.int (0 : Int32)), .val (.int (0 : Int32)), .val (.int (1 : Int32)), .unset, .unset, .unset, .unset, .unset, .unset] [(.ref b273)]) s₁ (entryFrame m #[(.int p1)] maxLocals) := fun t k => pre272 t (st273 t k)
          have O275 : Old Z n0 h273 := O0.ext E273
          have Z275 : n0 ≤ h273.size := Nat.le_trans Z0 E273.1
          have F_seesLeft_b273 : Fld Z h273 b273 "com/example/picketline/picketline/protocol/Surroundings" "seesLeft" "Z" (.int (0 : Int32)) := D273 (Or.inr (hw _ (List.mem_of_getElem? (i := 15) rfl))) (ty := .boolean) (by decide)
          have F_seesRight_b273 : Fld Z h273 b273 "com/example/picketline/picketline/protocol/Surroundings" "seesRight" "Z" (.int (0 : Int32)) := D273 (Or.inr (hw _ (List.mem_of_getElem? (i := 17) rfl))) (ty := .boolean) (by decide)
          have F_gapLeft_b273 : Fld Z h273 b273 "com/example/picketline/picketline/protocol/Surroundings" "gapLeft" "Z" (.int (0 : Int32)) := D273 (Or.inr (hw _ (List.mem_of_getElem? (i := 19) rfl))) (ty := .boolean) (by decide)
          have F_gapRight_b273 : Fld Z h273 b273 "com/example/picketline/picketline/protocol/Surroundings" "gapRight" "Z" (.int (0 : Int32)) := D273 (Or.inr (hw _ (List.mem_of_getElem? (i := 21) rfl))) (ty := .boolean) (by decide)
          have pre276 : Go p e below T273 (mkF m 67 #[.val (.int p1), .val (.int (1 : Int32)), .val (.int (0 : Int32)), .val (.int (0 : Int32)), .val (.int (1 : Int32)), .unset, .unset, .unset, .unset, .unset, .unset] [(.int (1 : Int32)), (.int (0 : Int32)), (.int (0 : Int32)), (.int (1 : Int32)), (.ref b273), (.ref b273)]) s₁ (entryFrame m #[(.int p1)] maxLocals) := fun t k => pre274 t (by
              show Steps p.tables e below (T273.setTop (mkF m 61 #[.val (.int p1), .val (.int (1 : Int32)), .val (.int (0 : Int32)), .val (.int (0 : Int32)), .val (.int (1 : Int32)), .unset, .unset, .unset, .unset, .unset, .unset] [(.ref b273)])) t
              refine XS.dup X273.here hx rfl (hb hby at_61) rfl rfl ?_
              show Steps p.tables e below (T273.setTop (mkF m 62 #[.val (.int p1), .val (.int (1 : Int32)), .val (.int (0 : Int32)), .val (.int (0 : Int32)), .val (.int (1 : Int32)), .unset, .unset, .unset, .unset, .unset, .unset] [(.ref b273), (.ref b273)])) t
              refine XS.iloadN X273.here hx rfl (hb hby at_62) rfl ?_
              show Steps p.tables e below (T273.setTop (mkF m 63 #[.val (.int p1), .val (.int (1 : Int32)), .val (.int (0 : Int32)), .val (.int (0 : Int32)), .val (.int (1 : Int32)), .unset, .unset, .unset, .unset, .unset, .unset] [(.int (1 : Int32)), (.ref b273), (.ref b273)])) t
              refine XS.iloadN X273.here hx rfl (hb hby at_63) rfl ?_
              show Steps p.tables e below (T273.setTop (mkF m 64 #[.val (.int p1), .val (.int (1 : Int32)), .val (.int (0 : Int32)), .val (.int (0 : Int32)), .val (.int (1 : Int32)), .unset, .unset, .unset, .unset, .unset, .unset] [(.int (0 : Int32)), (.int (1 : Int32)), (.ref b273), (.ref b273)])) t
              refine XS.iloadN X273.here hx rfl (hb hby at_64) rfl ?_
              show Steps p.tables e below (T273.setTop (mkF m 65 #[.val (.int p1), .val (.int (1 : Int32)), .val (.int (0 : Int32)), .val (.int (0 : Int32)), .val (.int (1 : Int32)), .unset, .unset, .unset, .unset, .unset, .unset] [(.int (0 : Int32)), (.int (0 : Int32)), (.int (1 : Int32)), (.ref b273), (.ref b273)])) t
              refine XS.iload X273.here hx rfl (hb hby at_65) rfl ?_
              exact k)
          obtain ⟨_, _, ⟨T277, L277, k277, n277⟩, -, X277, ⟨Lc277, hQ277, l277, y277, z277⟩, st277⟩ := X273.specialBack hx (y := (⟨"com/example/picketline/picketline/protocol/Surroundings", "<init>", "(ZZZZ)V"⟩ : MethodName)) rfl hown (mvT hZ (hw _ (List.mem_of_getElem? (i := 3) rfl))) (mvT hZ (hw _ (List.mem_of_getElem? (i := 4) rfl))) (mvT hZ (hw _ (List.mem_of_getElem? (i := 5) rfl))) (by decide) (backOf (W := 1) (rmC l Z a0 hw [] b273 (1 : Int32) (0 : Int32) (0 : Int32) (1 : Int32) h273 n0 Z275 A273 g_b273 F_seesLeft_b273 F_seesRight_b273 F_gapLeft_b273 F_gapRight_b273 rfl rfl rfl rfl rfl rfl rfl rfl) hZ (hw _ (List.mem_of_getElem? (i := 5) rfl)) (hw _ (List.mem_of_getElem? (i := 2) rfl)) (by decide) (by decide)) (g := (mkF m 67 #[.val (.int p1), .val (.int (1 : Int32)), .val (.int (0 : Int32)), .val (.int (0 : Int32)), .val (.int (1 : Int32)), .unset, .unset, .unset, .unset, .unset, .unset] [(.int (1 : Int32)), (.int (0 : Int32)), (.int (0 : Int32)), (.int (1 : Int32)), (.ref b273), (.ref b273)])) rfl (by rw [hml]; rfl) (Steps.refl _) (a := b273) (argsL := [(.int (1 : Int32)), (.int (0 : Int32)), (.int (0 : Int32)), (.int (1 : Int32))]) (rest := [(.ref b273)]) (lenOf pdL_0 rfl) rfl (by show 2 * 0 + _ ≤ _; exact Nat.le_of_eq rfl) (hb hby at_67) (fun _ _ => ⟨rfl, e273, (by decide : 1 + 0 ≤ _), (by decide : 4 + 0 ≤ _)⟩)
          dsimp only [Pt.U, Pt.locs, Pt.cells, Pt.slots] at X277 l277 y277 z277 st277 hQ277
          subst l277 y277 z277
          obtain ⟨rfl, N277q, K277, EX277, G0_277, G1_277, G2_277, G3_277⟩ := hQ277
          have N277 := Fr.app N0 N277q
          have pre278 : Go p e below T277 (mkF m 70 #[.val (.int p1), .val (.int (1 : Int32)), .val (.int (0 : Int32)), .val (.int (0 : Int32)), .val (.int (1 : Int32)), .unset, .unset, .unset, .unset, .unset, .unset] [(.ref b273)]) s₁ (entryFrame m #[(.int p1)] maxLocals) := fun t k => pre276 t (st277.trans k)
          have O279 : Old Z n0 T277.heap := O275.keep K277 (allS g_b273 all0)
          have Z279 : n0 ≤ T277.heap.size := Nat.le_trans Z275 K277.1
          have pre280 : Go p e below T277 (mkF m 74 #[.val (.int p1), .val (.int (1 : Int32)), .val (.int (0 : Int32)), .val (.int (0 : Int32)), .val (.int (1 : Int32)), .val (.ref b273), .unset, .unset, .unset, .unset, .unset] [(.ref b273)]) s₁ (entryFrame m #[(.int p1)] maxLocals) := fun t k => pre278 t (by
              show Steps p.tables e below (T277.setTop (mkF m 70 #[.val (.int p1), .val (.int (1 : Int32)), .val (.int (0 : Int32)), .val (.int (0 : Int32)), .val (.int (1 : Int32)), .unset, .unset, .unset, .unset, .unset, .unset] [(.ref b273)])) t
              refine XS.astore X277.here hx rfl (hb hby at_70) rfl rfl (l' := #[.val (.int p1), .val (.int (1 : Int32)), .val (.int (0 : Int32)), .val (.int (0 : Int32)), .val (.int (1 : Int32)), .val (.ref b273), .unset, .unset, .unset, .unset, .unset]) rfl ?_
              show Steps p.tables e below (T277.setTop (mkF m 72 #[.val (.int p1), .val (.int (1 : Int32)), .val (.int (0 : Int32)), .val (.int (0 : Int32)), .val (.int (1 : Int32)), .val (.ref b273), .unset, .unset, .unset, .unset, .unset] [])) t
              refine XS.aload X277.here hx rfl (hb hby at_72) rfl rfl ?_
              exact k)
          obtain ⟨cq281, kq281, q281a, q281b, q281c⟩ := isOf hZ rfl EX277
          obtain ⟨_, _, ⟨T281, L281, k281, n281⟩, -, X281, ⟨Lc281, hQ281, l281, y281, z281⟩, st281⟩ := X277.virtualBack hx (y := (⟨"com/example/picketline/picketline/protocol/Surroundings", "towardGap", "()Lcom/example/picketline/picketline/protocol/Heading;"⟩ : MethodName)) (z := (⟨"com/example/picketline/picketline/protocol/Surroundings", "towardGap", "()Lcom/example/picketline/picketline/protocol/Heading;"⟩ : MethodName)) hown (mvT hZ (hw _ (List.mem_of_getElem? (i := 22) rfl))) (mvT hZ (hw _ (List.mem_of_getElem? (i := 23) rfl))) (notFace_of_selects (args := #[]) (mvT hZ (hw _ (List.mem_of_getElem? (i := 25) rfl)))) (mvT hZ (hw _ (List.mem_of_getElem? (i := 25) rfl))) (mvT hZ (hw _ (List.mem_of_getElem? (i := 24) rfl))) (by decide) (backOf (W := 0) (rmT l Z a0 hw [] b273 (1 : Int32) (0 : Int32) (0 : Int32) (1 : Int32) w0 w1 w2 w2 T277.heap n0 Z279 G0_277 G1_277 G2_277 G3_277 (S0.ext O279.2) (S1.ext O279.2) (S2.ext O279.2) (by simp [towF])) hZ (hw _ (List.mem_of_getElem? (i := 26) rfl)) (hw _ (List.mem_of_getElem? (i := 2) rfl)) (by decide) (by decide)) q281a q281c (g := (mkF m 74 #[.val (.int p1), .val (.int (1 : Int32)), .val (.int (0 : Int32)), .val (.int (0 : Int32)), .val (.int (1 : Int32)), .val (.ref b273), .unset, .unset, .unset, .unset, .unset] [(.ref b273)])) rfl (by rw [hml]; rfl) (Steps.refl _) (argsL := []) (rest := []) (lenOf pdL_1 rfl) rfl (by show 2 * 0 + _ ≤ _; exact Nat.le_of_eq rfl) (hb hby at_74) (fun _ _ => ⟨rfl, rfl, (by decide : 1 + 0 ≤ _), (by decide : 4 + 0 ≤ _)⟩)
          dsimp only [Pt.U, Pt.locs, Pt.cells, Pt.slots] at X281 l281 y281 z281 st281 hQ281
          subst l281 y281 z281
          obtain ⟨rfl, N281q, hq281⟩ := hQ281
          have N281 := Fr.app N277 N281q
          have pre282 : Go p e below T281 (mkF m 77 #[.val (.int p1), .val (.int (1 : Int32)), .val (.int (0 : Int32)), .val (.int (0 : Int32)), .val (.int (1 : Int32)), .val (.ref b273), .unset, .unset, .unset, .unset, .unset] [(.ref w2)]) s₁ (entryFrame m #[(.int p1)] maxLocals) := fun t k => pre280 t (st281.trans k)
          have e281 : T281.heap = T277.heap := hq281
          have pre283 : Go p e below T281 (mkF m 80 #[.val (.int p1), .val (.int (1 : Int32)), .val (.int (0 : Int32)), .val (.int (0 : Int32)), .val (.int (1 : Int32)), .val (.ref b273), .val (.ref w2), .unset, .unset, .unset, .unset] [(.int (1 : Int32))]) s₁ (entryFrame m #[(.int p1)] maxLocals) := fun t k => pre282 t (by
              show Steps p.tables e below (T281.setTop (mkF m 77 #[.val (.int p1), .val (.int (1 : Int32)), .val (.int (0 : Int32)), .val (.int (0 : Int32)), .val (.int (1 : Int32)), .val (.ref b273), .unset, .unset, .unset, .unset, .unset] [(.ref w2)])) t
              refine XS.astore X281.here hx rfl (hb hby at_77) rfl rfl (l' := #[.val (.int p1), .val (.int (1 : Int32)), .val (.int (0 : Int32)), .val (.int (0 : Int32)), .val (.int (1 : Int32)), .val (.ref b273), .val (.ref w2), .unset, .unset, .unset, .unset]) rfl ?_
              show Steps p.tables e below (T281.setTop (mkF m 79 #[.val (.int p1), .val (.int (1 : Int32)), .val (.int (0 : Int32)), .val (.int (0 : Int32)), .val (.int (1 : Int32)), .val (.ref b273), .val (.ref w2), .unset, .unset, .unset, .unset] [])) t
              refine XS.iloadN X281.here hx rfl (hb hby at_79) rfl ?_
              exact k)
          have pre284 : Go p e below T281 (mkF m 83 #[.val (.int p1), .val (.int (1 : Int32)), .val (.int (0 : Int32)), .val (.int (0 : Int32)), .val (.int (1 : Int32)), .val (.ref b273), .val (.ref w2), .unset, .unset, .unset, .unset] []) s₁ (entryFrame m #[(.int p1)] maxLocals) := fun t k => pre283 t (XS.ifNo X281.here hx rfl (hb hby at_80) rfl ((if0 _ _).trans (feq (by decide : ¬ ((1 : Int32) = (0 : Int32)))).1) k)
          have pre285 : Go p e below T281 (mkF m 85 #[.val (.int p1), .val (.int (1 : Int32)), .val (.int (0 : Int32)), .val (.int (0 : Int32)), .val (.int (1 : Int32)), .val (.ref b273), .val (.ref w2), .unset, .unset, .unset, .unset] [(.int (1 : Int32))]) s₁ (entryFrame m #[(.int p1)] maxLocals) := fun t k => pre284 t (by
              show Steps p.tables e below (T281.setTop (mkF m 83 #[.val (.int p1), .val (.int (1 : Int32)), .val (.int (0 : Int32)), .val (.int (0 : Int32)), .val (.int (1 : Int32)), .val (.ref b273), .val (.ref w2), .unset, .unset, .unset, .unset] [])) t
              refine XS.iload X281.here hx rfl (hb hby at_83) rfl ?_
              exact k)
          have pre286 : Go p e below T281 (mkF m 88 #[.val (.int p1), .val (.int (1 : Int32)), .val (.int (0 : Int32)), .val (.int (0 : Int32)), .val (.int (1 : Int32)), .val (.ref b273), .val (.ref w2), .unset, .unset, .unset, .unset] []) s₁ (entryFrame m #[(.int p1)] maxLocals) := fun t k => pre285 t (XS.ifNo X281.here hx rfl (hb hby at_85) rfl ((if0 _ _).trans (feq (by decide : ¬ ((1 : Int32) = (0 : Int32)))).1) k)
          have pre287 : Go p e below T281 (mkF m 96 #[.val (.int p1), .val (.int (1 : Int32)), .val (.int (0 : Int32)), .val (.int (0 : Int32)), .val (.int (1 : Int32)), .val (.ref b273), .val (.ref w2), .val (.int (1 : Int32)), .unset, .unset, .unset] [(.int (0 : Int32))]) s₁ (entryFrame m #[(.int p1)] maxLocals) := fun t k => pre286 t (by
              show Steps p.tables e below (T281.setTop (mkF m 88 #[.val (.int p1), .val (.int (1 : Int32)), .val (.int (0 : Int32)), .val (.int (0 : Int32)), .val (.int (1 : Int32)), .val (.ref b273), .val (.ref w2), .unset, .unset, .unset, .unset] [])) t
              refine XS.iconst X281.here hx rfl (hb hby at_88) ?_
              show Steps p.tables e below (T281.setTop (mkF m 89 #[.val (.int p1), .val (.int (1 : Int32)), .val (.int (0 : Int32)), .val (.int (0 : Int32)), .val (.int (1 : Int32)), .val (.ref b273), .val (.ref w2), .unset, .unset, .unset, .unset] [(.int (1 : Int32))])) t
              refine XS.goto X281.here hx rfl (pc0 := 89) (pc' := 93) rfl (hb hby at_89) (by decide) (by decide) ?_
              show Steps p.tables e below (T281.setTop (mkF m 93 #[.val (.int p1), .val (.int (1 : Int32)), .val (.int (0 : Int32)), .val (.int (0 : Int32)), .val (.int (1 : Int32)), .val (.ref b273), .val (.ref w2), .unset, .unset, .unset, .unset] [(.int (1 : Int32))])) t
              refine XS.istore X281.here hx rfl (hb hby at_93) rfl (l' := #[.val (.int p1), .val (.int (1 : Int32)), .val (.int (0 : Int32)), .val (.int (0 : Int32)), .val (.int (1 : Int32)), .val (.ref b273), .val (.ref w2), .val (.int (1 : Int32)), .unset, .unset, .unset]) rfl ?_
              show Steps p.tables e below (T281.setTop (mkF m 95 #[.val (.int p1), .val (.int (1 : Int32)), .val (.int (0 : Int32)), .val (.int (0 : Int32)), .val (.int (1 : Int32)), .val (.ref b273), .val (.ref w2), .val (.int (1 : Int32)), .unset, .unset, .unset] [])) t
              refine XS.iloadN X281.here hx rfl (hb hby at_95) rfl ?_
              exact k)
          have pre288 : Go p e below T281 (mkF m 107 #[.val (.int p1), .val (.int (1 : Int32)), .val (.int (0 : Int32)), .val (.int (0 : Int32)), .val (.int (1 : Int32)), .val (.ref b273), .val (.ref w2), .val (.int (1 : Int32)), .unset, .unset, .unset] []) s₁ (entryFrame m #[(.int p1)] maxLocals) := fun t k => pre287 t (XS.ifYes X281.here hx rfl (pc0 := 96) (pc' := 107) rfl (hb hby at_96) rfl ((if0 _ _).trans (teq (by decide : (0 : Int32) = (0 : Int32))).1) (by decide) (by decide) k)
          have pre289 : Go p e below T281 (mkF m 119 #[.val (.int p1), .val (.int (1 : Int32)), .val (.int (0 : Int32)), .val (.int (0 : Int32)), .val (.int (1 : Int32)), .val (.ref b273), .val (.ref w2), .val (.int (1 : Int32)), .val (.int (0 : Int32)), .val (.int (1 : Int32)), .unset] [(.int (1 : Int32))]) s₁ (entryFrame m #[(.int p1)] maxLocals) := fun t k => pre288 t (by
              show Steps p.tables e below (T281.setTop (mkF m 107 #[.val (.int p1), .val (.int (1 : Int32)), .val (.int (0 : Int32)), .val (.int (0 : Int32)), .val (.int (1 : Int32)), .val (.ref b273), .val (.ref w2), .val (.int (1 : Int32)), .unset, .unset, .unset] [])) t
              refine XS.iconst X281.here hx rfl (hb hby at_107) ?_
              show Steps p.tables e below (T281.setTop (mkF m 108 #[.val (.int p1), .val (.int (1 : Int32)), .val (.int (0 : Int32)), .val (.int (0 : Int32)), .val (.int (1 : Int32)), .val (.ref b273), .val (.ref w2), .val (.int (1 : Int32)), .unset, .unset, .unset] [(.int (0 : Int32))])) t
              refine XS.istore X281.here hx rfl (hb hby at_108) rfl (l' := #[.val (.int p1), .val (.int (1 : Int32)), .val (.int (0 : Int32)), .val (.int (0 : Int32)), .val (.int (1 : Int32)), .val (.ref b273), .val (.ref w2), .val (.int (1 : Int32)), .val (.int (0 : Int32)), .unset, .unset]) rfl ?_
              show Steps p.tables e below (T281.setTop (mkF m 110 #[.val (.int p1), .val (.int (1 : Int32)), .val (.int (0 : Int32)), .val (.int (0 : Int32)), .val (.int (1 : Int32)), .val (.ref b273), .val (.ref w2), .val (.int (1 : Int32)), .val (.int (0 : Int32)), .unset, .unset] [])) t
              refine XS.iload X281.here hx rfl (hb hby at_110) rfl ?_
              show Steps p.tables e below (T281.setTop (mkF m 112 #[.val (.int p1), .val (.int (1 : Int32)), .val (.int (0 : Int32)), .val (.int (0 : Int32)), .val (.int (1 : Int32)), .val (.ref b273), .val (.ref w2), .val (.int (1 : Int32)), .val (.int (0 : Int32)), .unset, .unset] [(.int (1 : Int32))])) t
              refine XS.iload X281.here hx rfl (hb hby at_112) rfl ?_
              show Steps p.tables e below (T281.setTop (mkF m 114 #[.val (.int p1), .val (.int (1 : Int32)), .val (.int (0 : Int32)), .val (.int (0 : Int32)), .val (.int (1 : Int32)), .val (.ref b273), .val (.ref w2), .val (.int (1 : Int32)), .val (.int (0 : Int32)), .unset, .unset] [(.int (0 : Int32)), (.int (1 : Int32))])) t
              refine XS.isub X281.here hx rfl (hb hby at_114) rfl ?_
              show Steps p.tables e below (T281.setTop (mkF m 115 #[.val (.int p1), .val (.int (1 : Int32)), .val (.int (0 : Int32)), .val (.int (0 : Int32)), .val (.int (1 : Int32)), .val (.ref b273), .val (.ref w2), .val (.int (1 : Int32)), .val (.int (0 : Int32)), .unset, .unset] [(.int (1 : Int32))])) t
              refine XS.istore X281.here hx rfl (hb hby at_115) rfl (l' := #[.val (.int p1), .val (.int (1 : Int32)), .val (.int (0 : Int32)), .val (.int (0 : Int32)), .val (.int (1 : Int32)), .val (.ref b273), .val (.ref w2), .val (.int (1 : Int32)), .val (.int (0 : Int32)), .val (.int (1 : Int32)), .unset]) rfl ?_
              show Steps p.tables e below (T281.setTop (mkF m 117 #[.val (.int p1), .val (.int (1 : Int32)), .val (.int (0 : Int32)), .val (.int (0 : Int32)), .val (.int (1 : Int32)), .val (.ref b273), .val (.ref w2), .val (.int (1 : Int32)), .val (.int (0 : Int32)), .val (.int (1 : Int32)), .unset] [])) t
              refine XS.iload X281.here hx rfl (hb hby at_117) rfl ?_
              exact k)
          have pre290 : Go p e below T281 (mkF m 122 #[.val (.int p1), .val (.int (1 : Int32)), .val (.int (0 : Int32)), .val (.int (0 : Int32)), .val (.int (1 : Int32)), .val (.ref b273), .val (.ref w2), .val (.int (1 : Int32)), .val (.int (0 : Int32)), .val (.int (1 : Int32)), .unset] []) s₁ (entryFrame m #[(.int p1)] maxLocals) := fun t k => pre289 t (XS.ifNo X281.here hx rfl (hb hby at_119) rfl ((if0 _ _).trans (tlt (by decide : (0 : Int32) < (1 : Int32))).2.2.2) k)
          obtain ⟨T291, X291, e291, st291⟩ := getS2 X281 hx hZ hown (host := "") (Or.inl (hw _ (List.mem_of_getElem? (i := 36) rfl))) Via.refl e281 (S2.ext O279.2) (g := (mkF m 122 #[.val (.int p1), .val (.int (1 : Int32)), .val (.int (0 : Int32)), .val (.int (0 : Int32)), .val (.int (1 : Int32)), .val (.ref b273), .val (.ref w2), .val (.int (1 : Int32)), .val (.int (0 : Int32)), .val (.int (1 : Int32)), .unset] [])) rfl (hb hby at_122)
          have pre292 : Go p e below T291 (mkF m 125 #[.val (.int p1), .val (.int (1 : Int32)), .val (.int (0 : Int32)), .val (.int (0 : Int32)), .val (.int (1 : Int32)), .val (.ref b273), .val (.ref w2), .val (.int (1 : Int32)), .val (.int (0 : Int32)), .val (.int (1 : Int32)), .unset] [(.ref w2)]) s₁ (entryFrame m #[(.int p1)] maxLocals) := fun t k => pre290 t (st291 t k)
          have pre293 : Go p e below T291 (mkF m 152 #[.val (.int p1), .val (.int (1 : Int32)), .val (.int (0 : Int32)), .val (.int (0 : Int32)), .val (.int (1 : Int32)), .val (.ref b273), .val (.ref w2), .val (.int (1 : Int32)), .val (.int (0 : Int32)), .val (.int (1 : Int32)), .val (.ref w2)] [(.ref w2), (.ref w2)]) s₁ (entryFrame m #[(.int p1)] maxLocals) := fun t k => pre292 t (by
              show Steps p.tables e below (T291.setTop (mkF m 125 #[.val (.int p1), .val (.int (1 : Int32)), .val (.int (0 : Int32)), .val (.int (0 : Int32)), .val (.int (1 : Int32)), .val (.ref b273), .val (.ref w2), .val (.int (1 : Int32)), .val (.int (0 : Int32)), .val (.int (1 : Int32)), .unset] [(.ref w2)])) t
              refine XS.astore X291.here hx rfl (hb hby at_125) rfl rfl (l' := #[.val (.int p1), .val (.int (1 : Int32)), .val (.int (0 : Int32)), .val (.int (0 : Int32)), .val (.int (1 : Int32)), .val (.ref b273), .val (.ref w2), .val (.int (1 : Int32)), .val (.int (0 : Int32)), .val (.int (1 : Int32)), .val (.ref w2)]) rfl ?_
              show Steps p.tables e below (T291.setTop (mkF m 127 #[.val (.int p1), .val (.int (1 : Int32)), .val (.int (0 : Int32)), .val (.int (0 : Int32)), .val (.int (1 : Int32)), .val (.ref b273), .val (.ref w2), .val (.int (1 : Int32)), .val (.int (0 : Int32)), .val (.int (1 : Int32)), .val (.ref w2)] [])) t
              refine XS.goto X291.here hx rfl (pc0 := 127) (pc' := 148) rfl (hb hby at_127) (by decide) (by decide) ?_
              show Steps p.tables e below (T291.setTop (mkF m 148 #[.val (.int p1), .val (.int (1 : Int32)), .val (.int (0 : Int32)), .val (.int (0 : Int32)), .val (.int (1 : Int32)), .val (.ref b273), .val (.ref w2), .val (.int (1 : Int32)), .val (.int (0 : Int32)), .val (.int (1 : Int32)), .val (.ref w2)] [])) t
              refine XS.aload X291.here hx rfl (hb hby at_148) rfl rfl ?_
              show Steps p.tables e below (T291.setTop (mkF m 150 #[.val (.int p1), .val (.int (1 : Int32)), .val (.int (0 : Int32)), .val (.int (0 : Int32)), .val (.int (1 : Int32)), .val (.ref b273), .val (.ref w2), .val (.int (1 : Int32)), .val (.int (0 : Int32)), .val (.int (1 : Int32)), .val (.ref w2)] [(.ref w2)])) t
              refine XS.aload X291.here hx rfl (hb hby at_150) rfl rfl ?_
              exact k)
          have pre294 : Go p e below T291 (mkF m 155 #[.val (.int p1), .val (.int (1 : Int32)), .val (.int (0 : Int32)), .val (.int (0 : Int32)), .val (.int (1 : Int32)), .val (.ref b273), .val (.ref w2), .val (.int (1 : Int32)), .val (.int (0 : Int32)), .val (.int (1 : Int32)), .val (.ref w2)] []) s₁ (entryFrame m #[(.int p1)] maxLocals) := fun t k => pre293 t (Jvm.RoadKit.acmp (g := (mkF m 152 #[.val (.int p1), .val (.int (1 : Int32)), .val (.int (0 : Int32)), .val (.int (0 : Int32)), .val (.int (1 : Int32)), .val (.ref b273), .val (.ref w2), .val (.int (1 : Int32)), .val (.int (0 : Int32)), .val (.int (1 : Int32)), .val (.ref w2)] [(.ref w2), (.ref w2)])) X291 hx rfl rfl rfl (pc0 := 152) (pc' := 155) (same := true) rfl (hb hby at_152) rfl (decide_eq_true rfl) (by decide) (by decide) k)
          have pre295 : Go p e below T291 (mkF m 160 #[.val (.int p1), .val (.int (1 : Int32)), .val (.int (0 : Int32)), .val (.int (0 : Int32)), .val (.int (1 : Int32)), .val (.ref b273), .val (.ref w2), .val (.int (1 : Int32)), .val (.int (0 : Int32)), .val (.int (1 : Int32)), .val (.ref w2)] [(.int (1 : Int32))]) s₁ (entryFrame m #[(.int p1)] maxLocals) := fun t k => pre294 t (by
              show Steps p.tables e below (T291.setTop (mkF m 155 #[.val (.int p1), .val (.int (1 : Int32)), .val (.int (0 : Int32)), .val (.int (0 : Int32)), .val (.int (1 : Int32)), .val (.ref b273), .val (.ref w2), .val (.int (1 : Int32)), .val (.int (0 : Int32)), .val (.int (1 : Int32)), .val (.ref w2)] [])) t
              refine XS.iconst X291.here hx rfl (hb hby at_155) ?_
              show Steps p.tables e below (T291.setTop (mkF m 156 #[.val (.int p1), .val (.int (1 : Int32)), .val (.int (0 : Int32)), .val (.int (0 : Int32)), .val (.int (1 : Int32)), .val (.ref b273), .val (.ref w2), .val (.int (1 : Int32)), .val (.int (0 : Int32)), .val (.int (1 : Int32)), .val (.ref w2)] [(.int (1 : Int32))])) t
              refine XS.goto X291.here hx rfl (pc0 := 156) (pc' := 160) rfl (hb hby at_156) (by decide) (by decide) ?_
              exact k)
          have hnr : Value.int (nar .boolean (1 : Int32)) = (.int (1 : Int32)) := by rfl
          obtain ⟨fs, hr, hrun, hended, hW, hsame⟩ := X291.leave (v := some (.int (1 : Int32))) (fun h => by rw [Bd.returns] at h; cases h)
          refine ⟨_, _, pre295 _ (retN X291 hx (t := .boolean) Bd.returns (by simp) (hb hby at_160) (hnr ▸ hr)), hrun, hended, _, _, rfl, ?_, ⟨_, rfl⟩, hW, hsame.mono (by decide) (by decide)⟩
          show QL Z p1 w0 w1 w2 h0 n0 _ T291.heap _
          rw [e291]
          exact ⟨rfl, N281⟩
      · have pre296 : Go p e below s₁ (mkF m 30 #[.val (.int p1), .val (.int (1 : Int32)), .val (.int (0 : Int32)), .unset, .unset, .unset, .unset, .unset, .unset, .unset, .unset] []) s₁ (entryFrame m #[(.int p1)] maxLocals) := fun t k => pre239 t (XS.ifNo X0.here hx rfl (hb hby at_27) rfl ((if0 _ _).trans (feq hc27).1) k)
        have pre297 : Go p e below s₁ (mkF m 31 #[.val (.int p1), .val (.int (1 : Int32)), .val (.int (0 : Int32)), .unset, .unset, .unset, .unset, .unset, .unset, .unset, .unset] [(.int (1 : Int32))]) s₁ (entryFrame m #[(.int p1)] maxLocals) := fun t k => pre296 t (by
            show Steps p.tables e below (s₁.setTop (mkF m 30 #[.val (.int p1), .val (.int (1 : Int32)), .val (.int (0 : Int32)), .unset, .unset, .unset, .unset, .unset, .unset, .unset, .unset] [])) t
            refine XS.iloadN X0.here hx rfl (hb hby at_30) rfl ?_
            exact k)
        have pre298 : Go p e below s₁ (mkF m 38 #[.val (.int p1), .val (.int (1 : Int32)), .val (.int (0 : Int32)), .unset, .unset, .unset, .unset, .unset, .unset, .unset, .unset] []) s₁ (entryFrame m #[(.int p1)] maxLocals) := fun t k => pre297 t (XS.ifYes X0.here hx rfl (pc0 := 31) (pc' := 38) rfl (hb hby at_31) rfl ((if0 _ _).trans (feq (by decide : ¬ ((1 : Int32) = (0 : Int32)))).2) (by decide) (by decide) k)
        have pre299 : Go p e below s₁ (mkF m 44 #[.val (.int p1), .val (.int (1 : Int32)), .val (.int (0 : Int32)), .val (.int (0 : Int32)), .unset, .unset, .unset, .unset, .unset, .unset, .unset] [(.int (p1 &&& (8 : Int32)))]) s₁ (entryFrame m #[(.int p1)] maxLocals) := fun t k => pre298 t (by
            show Steps p.tables e below (s₁.setTop (mkF m 38 #[.val (.int p1), .val (.int (1 : Int32)), .val (.int (0 : Int32)), .unset, .unset, .unset, .unset, .unset, .unset, .unset, .unset] [])) t
            refine XS.iconst X0.here hx rfl (hb hby at_38) ?_
            show Steps p.tables e below (s₁.setTop (mkF m 39 #[.val (.int p1), .val (.int (1 : Int32)), .val (.int (0 : Int32)), .unset, .unset, .unset, .unset, .unset, .unset, .unset, .unset] [(.int (0 : Int32))])) t
            refine XS.istoreN X0.here hx rfl (hb hby at_39) rfl (l' := #[.val (.int p1), .val (.int (1 : Int32)), .val (.int (0 : Int32)), .val (.int (0 : Int32)), .unset, .unset, .unset, .unset, .unset, .unset, .unset]) rfl ?_
            show Steps p.tables e below (s₁.setTop (mkF m 40 #[.val (.int p1), .val (.int (1 : Int32)), .val (.int (0 : Int32)), .val (.int (0 : Int32)), .unset, .unset, .unset, .unset, .unset, .unset, .unset] [])) t
            refine XS.iloadN X0.here hx rfl (hb hby at_40) rfl ?_
            show Steps p.tables e below (s₁.setTop (mkF m 41 #[.val (.int p1), .val (.int (1 : Int32)), .val (.int (0 : Int32)), .val (.int (0 : Int32)), .unset, .unset, .unset, .unset, .unset, .unset, .unset] [(.int p1)])) t
            refine XS.bipush X0.here hx rfl (hb hby at_41) ?_
            show Steps p.tables e below (s₁.setTop (mkF m 43 #[.val (.int p1), .val (.int (1 : Int32)), .val (.int (0 : Int32)), .val (.int (0 : Int32)), .unset, .unset, .unset, .unset, .unset, .unset, .unset] [(.int (8 : Int32)), (.int p1)])) t
            refine XS.iand X0.here hx rfl (hb hby at_43) rfl ?_
            exact k)
        by_cases hc44 : (p1 &&& (8 : Int32)) = (0 : Int32)
        · have pre300 : Go p e below s₁ (mkF m 55 #[.val (.int p1), .val (.int (1 : Int32)), .val (.int (0 : Int32)), .val (.int (0 : Int32)), .unset, .unset, .unset, .unset, .unset, .unset, .unset] []) s₁ (entryFrame m #[(.int p1)] maxLocals) := fun t k => pre299 t (XS.ifYes X0.here hx rfl (pc0 := 44) (pc' := 55) rfl (hb hby at_44) rfl ((if0 _ _).trans (teq hc44).1) (by decide) (by decide) k)
          have pre301 : Go p e below s₁ (mkF m 58 #[.val (.int p1), .val (.int (1 : Int32)), .val (.int (0 : Int32)), .val (.int (0 : Int32)), .val (.int (0 : Int32)), .unset, .unset, .unset, .unset, .unset, .unset] []) s₁ (entryFrame m #[(.int p1)] maxLocals) := fun t k => pre300 t (by
              show Steps p.tables e below (s₁.setTop (mkF m 55 #[.val (.int p1), .val (.int (1 : Int32)), .val (.int (0 : Int32)), .val (.int (0 : Int32)), .unset, .unset, .unset, .unset, .unset, .unset, .unset] [])) t
              refine XS.iconst X0.here hx rfl (hb hby at_55) ?_
              show Steps p.tables e below (s₁.setTop (mkF m 56 #[.val (.int p1), .val (.int (1 : Int32)), .val (.int (0 : Int32)), .val (.int (0 : Int32)), .unset, .unset, .unset, .unset, .unset, .unset, .unset] [(.int (0 : Int32))])) t
              refine XS.istore X0.here hx rfl (hb hby at_56) rfl (l' := #[.val (.int p1), .val (.int (1 : Int32)), .val (.int (0 : Int32)), .val (.int (0 : Int32)), .val (.int (0 : Int32)), .unset, .unset, .unset, .unset, .unset, .unset]) rfl ?_
              exact k)
          obtain ⟨T302, h302, X302, e302, E302, A302, D302, U302, st302⟩ := newO X0 hx hZ hown (hw _ (List.mem_of_getElem? (i := 0) rfl)) (hw _ (List.mem_of_getElem? (i := 1) rfl)) (hw _ (List.mem_of_getElem? (i := 2) rfl)) e0 (g := (mkF m 58 #[.val (.int p1), .val (.int (1 : Int32)), .val (.int (0 : Int32)), .val (.int (0 : Int32)), .val (.int (0 : Int32)), .unset, .unset, .unset, .unset, .unset, .unset] [])) rfl (hb hby at_58) (by decide) (by decide)
          obtain ⟨b302, g302⟩ : ∃ z, z = h0.size := ⟨_, rfl⟩
          rw [← g302] at A302 st302 D302
          have g_b302 : n0 ≤ b302 := Nat.le_trans Z0 (Nat.le_of_eq g302.symm)
          have pre303 : Go p e below T302 (mkF m 61 #[.val (.int p1), .val (.int (1 : Int32)), .val (.int (0 : Int32)), .val (.int (0 : Int32)), .val (.int (0 : Int32)), .unset, .unset, .unset, .unset, .unset, .unset] [(.ref b302)]) s₁ (entryFrame m #[(.int p1)] maxLocals) := fun t k => pre301 t (st302 t k)
          have O304 : Old Z n0 h302 := O0.ext E302
          have Z304 : n0 ≤ h302.size := Nat.le_trans Z0 E302.1
          have F_seesLeft_b302 : Fld Z h302 b302 "com/example/picketline/picketline/protocol/Surroundings" "seesLeft" "Z" (.int (0 : Int32)) := D302 (Or.inr (hw _ (List.mem_of_getElem? (i := 15) rfl))) (ty := .boolean) (by decide)
          have F_seesRight_b302 : Fld Z h302 b302 "com/example/picketline/picketline/protocol/Surroundings" "seesRight" "Z" (.int (0 : Int32)) := D302 (Or.inr (hw _ (List.mem_of_getElem? (i := 17) rfl))) (ty := .boolean) (by decide)
          have F_gapLeft_b302 : Fld Z h302 b302 "com/example/picketline/picketline/protocol/Surroundings" "gapLeft" "Z" (.int (0 : Int32)) := D302 (Or.inr (hw _ (List.mem_of_getElem? (i := 19) rfl))) (ty := .boolean) (by decide)
          have F_gapRight_b302 : Fld Z h302 b302 "com/example/picketline/picketline/protocol/Surroundings" "gapRight" "Z" (.int (0 : Int32)) := D302 (Or.inr (hw _ (List.mem_of_getElem? (i := 21) rfl))) (ty := .boolean) (by decide)
          have pre305 : Go p e below T302 (mkF m 67 #[.val (.int p1), .val (.int (1 : Int32)), .val (.int (0 : Int32)), .val (.int (0 : Int32)), .val (.int (0 : Int32)), .unset, .unset, .unset, .unset, .unset, .unset] [(.int (0 : Int32)), (.int (0 : Int32)), (.int (0 : Int32)), (.int (1 : Int32)), (.ref b302), (.ref b302)]) s₁ (entryFrame m #[(.int p1)] maxLocals) := fun t k => pre303 t (by
              show Steps p.tables e below (T302.setTop (mkF m 61 #[.val (.int p1), .val (.int (1 : Int32)), .val (.int (0 : Int32)), .val (.int (0 : Int32)), .val (.int (0 : Int32)), .unset, .unset, .unset, .unset, .unset, .unset] [(.ref b302)])) t
              refine XS.dup X302.here hx rfl (hb hby at_61) rfl rfl ?_
              show Steps p.tables e below (T302.setTop (mkF m 62 #[.val (.int p1), .val (.int (1 : Int32)), .val (.int (0 : Int32)), .val (.int (0 : Int32)), .val (.int (0 : Int32)), .unset, .unset, .unset, .unset, .unset, .unset] [(.ref b302), (.ref b302)])) t
              refine XS.iloadN X302.here hx rfl (hb hby at_62) rfl ?_
              show Steps p.tables e below (T302.setTop (mkF m 63 #[.val (.int p1), .val (.int (1 : Int32)), .val (.int (0 : Int32)), .val (.int (0 : Int32)), .val (.int (0 : Int32)), .unset, .unset, .unset, .unset, .unset, .unset] [(.int (1 : Int32)), (.ref b302), (.ref b302)])) t
              refine XS.iloadN X302.here hx rfl (hb hby at_63) rfl ?_
              show Steps p.tables e below (T302.setTop (mkF m 64 #[.val (.int p1), .val (.int (1 : Int32)), .val (.int (0 : Int32)), .val (.int (0 : Int32)), .val (.int (0 : Int32)), .unset, .unset, .unset, .unset, .unset, .unset] [(.int (0 : Int32)), (.int (1 : Int32)), (.ref b302), (.ref b302)])) t
              refine XS.iloadN X302.here hx rfl (hb hby at_64) rfl ?_
              show Steps p.tables e below (T302.setTop (mkF m 65 #[.val (.int p1), .val (.int (1 : Int32)), .val (.int (0 : Int32)), .val (.int (0 : Int32)), .val (.int (0 : Int32)), .unset, .unset, .unset, .unset, .unset, .unset] [(.int (0 : Int32)), (.int (0 : Int32)), (.int (1 : Int32)), (.ref b302), (.ref b302)])) t
              refine XS.iload X302.here hx rfl (hb hby at_65) rfl ?_
              exact k)
          obtain ⟨_, _, ⟨T306, L306, k306, n306⟩, -, X306, ⟨Lc306, hQ306, l306, y306, z306⟩, st306⟩ := X302.specialBack hx (y := (⟨"com/example/picketline/picketline/protocol/Surroundings", "<init>", "(ZZZZ)V"⟩ : MethodName)) rfl hown (mvT hZ (hw _ (List.mem_of_getElem? (i := 3) rfl))) (mvT hZ (hw _ (List.mem_of_getElem? (i := 4) rfl))) (mvT hZ (hw _ (List.mem_of_getElem? (i := 5) rfl))) (by decide) (backOf (W := 1) (rmC l Z a0 hw [] b302 (1 : Int32) (0 : Int32) (0 : Int32) (0 : Int32) h302 n0 Z304 A302 g_b302 F_seesLeft_b302 F_seesRight_b302 F_gapLeft_b302 F_gapRight_b302 rfl rfl rfl rfl rfl rfl rfl rfl) hZ (hw _ (List.mem_of_getElem? (i := 5) rfl)) (hw _ (List.mem_of_getElem? (i := 2) rfl)) (by decide) (by decide)) (g := (mkF m 67 #[.val (.int p1), .val (.int (1 : Int32)), .val (.int (0 : Int32)), .val (.int (0 : Int32)), .val (.int (0 : Int32)), .unset, .unset, .unset, .unset, .unset, .unset] [(.int (0 : Int32)), (.int (0 : Int32)), (.int (0 : Int32)), (.int (1 : Int32)), (.ref b302), (.ref b302)])) rfl (by rw [hml]; rfl) (Steps.refl _) (a := b302) (argsL := [(.int (1 : Int32)), (.int (0 : Int32)), (.int (0 : Int32)), (.int (0 : Int32))]) (rest := [(.ref b302)]) (lenOf pdL_0 rfl) rfl (by show 2 * 0 + _ ≤ _; exact Nat.le_of_eq rfl) (hb hby at_67) (fun _ _ => ⟨rfl, e302, (by decide : 1 + 0 ≤ _), (by decide : 4 + 0 ≤ _)⟩)
          dsimp only [Pt.U, Pt.locs, Pt.cells, Pt.slots] at X306 l306 y306 z306 st306 hQ306
          subst l306 y306 z306
          obtain ⟨rfl, N306q, K306, EX306, G0_306, G1_306, G2_306, G3_306⟩ := hQ306
          have N306 := Fr.app N0 N306q
          have pre307 : Go p e below T306 (mkF m 70 #[.val (.int p1), .val (.int (1 : Int32)), .val (.int (0 : Int32)), .val (.int (0 : Int32)), .val (.int (0 : Int32)), .unset, .unset, .unset, .unset, .unset, .unset] [(.ref b302)]) s₁ (entryFrame m #[(.int p1)] maxLocals) := fun t k => pre305 t (st306.trans k)
          have O308 : Old Z n0 T306.heap := O304.keep K306 (allS g_b302 all0)
          have Z308 : n0 ≤ T306.heap.size := Nat.le_trans Z304 K306.1
          have pre309 : Go p e below T306 (mkF m 74 #[.val (.int p1), .val (.int (1 : Int32)), .val (.int (0 : Int32)), .val (.int (0 : Int32)), .val (.int (0 : Int32)), .val (.ref b302), .unset, .unset, .unset, .unset, .unset] [(.ref b302)]) s₁ (entryFrame m #[(.int p1)] maxLocals) := fun t k => pre307 t (by
              show Steps p.tables e below (T306.setTop (mkF m 70 #[.val (.int p1), .val (.int (1 : Int32)), .val (.int (0 : Int32)), .val (.int (0 : Int32)), .val (.int (0 : Int32)), .unset, .unset, .unset, .unset, .unset, .unset] [(.ref b302)])) t
              refine XS.astore X306.here hx rfl (hb hby at_70) rfl rfl (l' := #[.val (.int p1), .val (.int (1 : Int32)), .val (.int (0 : Int32)), .val (.int (0 : Int32)), .val (.int (0 : Int32)), .val (.ref b302), .unset, .unset, .unset, .unset, .unset]) rfl ?_
              show Steps p.tables e below (T306.setTop (mkF m 72 #[.val (.int p1), .val (.int (1 : Int32)), .val (.int (0 : Int32)), .val (.int (0 : Int32)), .val (.int (0 : Int32)), .val (.ref b302), .unset, .unset, .unset, .unset, .unset] [])) t
              refine XS.aload X306.here hx rfl (hb hby at_72) rfl rfl ?_
              exact k)
          obtain ⟨cq310, kq310, q310a, q310b, q310c⟩ := isOf hZ rfl EX306
          obtain ⟨_, _, ⟨T310, L310, k310, n310⟩, -, X310, ⟨Lc310, hQ310, l310, y310, z310⟩, st310⟩ := X306.virtualBack hx (y := (⟨"com/example/picketline/picketline/protocol/Surroundings", "towardGap", "()Lcom/example/picketline/picketline/protocol/Heading;"⟩ : MethodName)) (z := (⟨"com/example/picketline/picketline/protocol/Surroundings", "towardGap", "()Lcom/example/picketline/picketline/protocol/Heading;"⟩ : MethodName)) hown (mvT hZ (hw _ (List.mem_of_getElem? (i := 22) rfl))) (mvT hZ (hw _ (List.mem_of_getElem? (i := 23) rfl))) (notFace_of_selects (args := #[]) (mvT hZ (hw _ (List.mem_of_getElem? (i := 25) rfl)))) (mvT hZ (hw _ (List.mem_of_getElem? (i := 25) rfl))) (mvT hZ (hw _ (List.mem_of_getElem? (i := 24) rfl))) (by decide) (backOf (W := 0) (rmT l Z a0 hw [] b302 (1 : Int32) (0 : Int32) (0 : Int32) (0 : Int32) w0 w1 w2 w0 T306.heap n0 Z308 G0_306 G1_306 G2_306 G3_306 (S0.ext O308.2) (S1.ext O308.2) (S2.ext O308.2) (by simp [towF])) hZ (hw _ (List.mem_of_getElem? (i := 26) rfl)) (hw _ (List.mem_of_getElem? (i := 2) rfl)) (by decide) (by decide)) q310a q310c (g := (mkF m 74 #[.val (.int p1), .val (.int (1 : Int32)), .val (.int (0 : Int32)), .val (.int (0 : Int32)), .val (.int (0 : Int32)), .val (.ref b302), .unset, .unset, .unset, .unset, .unset] [(.ref b302)])) rfl (by rw [hml]; rfl) (Steps.refl _) (argsL := []) (rest := []) (lenOf pdL_1 rfl) rfl (by show 2 * 0 + _ ≤ _; exact Nat.le_of_eq rfl) (hb hby at_74) (fun _ _ => ⟨rfl, rfl, (by decide : 1 + 0 ≤ _), (by decide : 4 + 0 ≤ _)⟩)
          dsimp only [Pt.U, Pt.locs, Pt.cells, Pt.slots] at X310 l310 y310 z310 st310 hQ310
          subst l310 y310 z310
          obtain ⟨rfl, N310q, hq310⟩ := hQ310
          have N310 := Fr.app N306 N310q
          have pre311 : Go p e below T310 (mkF m 77 #[.val (.int p1), .val (.int (1 : Int32)), .val (.int (0 : Int32)), .val (.int (0 : Int32)), .val (.int (0 : Int32)), .val (.ref b302), .unset, .unset, .unset, .unset, .unset] [(.ref w0)]) s₁ (entryFrame m #[(.int p1)] maxLocals) := fun t k => pre309 t (st310.trans k)
          have e310 : T310.heap = T306.heap := hq310
          have pre312 : Go p e below T310 (mkF m 80 #[.val (.int p1), .val (.int (1 : Int32)), .val (.int (0 : Int32)), .val (.int (0 : Int32)), .val (.int (0 : Int32)), .val (.ref b302), .val (.ref w0), .unset, .unset, .unset, .unset] [(.int (1 : Int32))]) s₁ (entryFrame m #[(.int p1)] maxLocals) := fun t k => pre311 t (by
              show Steps p.tables e below (T310.setTop (mkF m 77 #[.val (.int p1), .val (.int (1 : Int32)), .val (.int (0 : Int32)), .val (.int (0 : Int32)), .val (.int (0 : Int32)), .val (.ref b302), .unset, .unset, .unset, .unset, .unset] [(.ref w0)])) t
              refine XS.astore X310.here hx rfl (hb hby at_77) rfl rfl (l' := #[.val (.int p1), .val (.int (1 : Int32)), .val (.int (0 : Int32)), .val (.int (0 : Int32)), .val (.int (0 : Int32)), .val (.ref b302), .val (.ref w0), .unset, .unset, .unset, .unset]) rfl ?_
              show Steps p.tables e below (T310.setTop (mkF m 79 #[.val (.int p1), .val (.int (1 : Int32)), .val (.int (0 : Int32)), .val (.int (0 : Int32)), .val (.int (0 : Int32)), .val (.ref b302), .val (.ref w0), .unset, .unset, .unset, .unset] [])) t
              refine XS.iloadN X310.here hx rfl (hb hby at_79) rfl ?_
              exact k)
          have pre313 : Go p e below T310 (mkF m 83 #[.val (.int p1), .val (.int (1 : Int32)), .val (.int (0 : Int32)), .val (.int (0 : Int32)), .val (.int (0 : Int32)), .val (.ref b302), .val (.ref w0), .unset, .unset, .unset, .unset] []) s₁ (entryFrame m #[(.int p1)] maxLocals) := fun t k => pre312 t (XS.ifNo X310.here hx rfl (hb hby at_80) rfl ((if0 _ _).trans (feq (by decide : ¬ ((1 : Int32) = (0 : Int32)))).1) k)
          have pre314 : Go p e below T310 (mkF m 85 #[.val (.int p1), .val (.int (1 : Int32)), .val (.int (0 : Int32)), .val (.int (0 : Int32)), .val (.int (0 : Int32)), .val (.ref b302), .val (.ref w0), .unset, .unset, .unset, .unset] [(.int (0 : Int32))]) s₁ (entryFrame m #[(.int p1)] maxLocals) := fun t k => pre313 t (by
              show Steps p.tables e below (T310.setTop (mkF m 83 #[.val (.int p1), .val (.int (1 : Int32)), .val (.int (0 : Int32)), .val (.int (0 : Int32)), .val (.int (0 : Int32)), .val (.ref b302), .val (.ref w0), .unset, .unset, .unset, .unset] [])) t
              refine XS.iload X310.here hx rfl (hb hby at_83) rfl ?_
              exact k)
          have pre315 : Go p e below T310 (mkF m 92 #[.val (.int p1), .val (.int (1 : Int32)), .val (.int (0 : Int32)), .val (.int (0 : Int32)), .val (.int (0 : Int32)), .val (.ref b302), .val (.ref w0), .unset, .unset, .unset, .unset] []) s₁ (entryFrame m #[(.int p1)] maxLocals) := fun t k => pre314 t (XS.ifYes X310.here hx rfl (pc0 := 85) (pc' := 92) rfl (hb hby at_85) rfl ((if0 _ _).trans (teq (by decide : (0 : Int32) = (0 : Int32))).1) (by decide) (by decide) k)
          have pre316 : Go p e below T310 (mkF m 96 #[.val (.int p1), .val (.int (1 : Int32)), .val (.int (0 : Int32)), .val (.int (0 : Int32)), .val (.int (0 : Int32)), .val (.ref b302), .val (.ref w0), .val (.int (0 : Int32)), .unset, .unset, .unset] [(.int (0 : Int32))]) s₁ (entryFrame m #[(.int p1)] maxLocals) := fun t k => pre315 t (by
              show Steps p.tables e below (T310.setTop (mkF m 92 #[.val (.int p1), .val (.int (1 : Int32)), .val (.int (0 : Int32)), .val (.int (0 : Int32)), .val (.int (0 : Int32)), .val (.ref b302), .val (.ref w0), .unset, .unset, .unset, .unset] [])) t
              refine XS.iconst X310.here hx rfl (hb hby at_92) ?_
              show Steps p.tables e below (T310.setTop (mkF m 93 #[.val (.int p1), .val (.int (1 : Int32)), .val (.int (0 : Int32)), .val (.int (0 : Int32)), .val (.int (0 : Int32)), .val (.ref b302), .val (.ref w0), .unset, .unset, .unset, .unset] [(.int (0 : Int32))])) t
              refine XS.istore X310.here hx rfl (hb hby at_93) rfl (l' := #[.val (.int p1), .val (.int (1 : Int32)), .val (.int (0 : Int32)), .val (.int (0 : Int32)), .val (.int (0 : Int32)), .val (.ref b302), .val (.ref w0), .val (.int (0 : Int32)), .unset, .unset, .unset]) rfl ?_
              show Steps p.tables e below (T310.setTop (mkF m 95 #[.val (.int p1), .val (.int (1 : Int32)), .val (.int (0 : Int32)), .val (.int (0 : Int32)), .val (.int (0 : Int32)), .val (.ref b302), .val (.ref w0), .val (.int (0 : Int32)), .unset, .unset, .unset] [])) t
              refine XS.iloadN X310.here hx rfl (hb hby at_95) rfl ?_
              exact k)
          have pre317 : Go p e below T310 (mkF m 107 #[.val (.int p1), .val (.int (1 : Int32)), .val (.int (0 : Int32)), .val (.int (0 : Int32)), .val (.int (0 : Int32)), .val (.ref b302), .val (.ref w0), .val (.int (0 : Int32)), .unset, .unset, .unset] []) s₁ (entryFrame m #[(.int p1)] maxLocals) := fun t k => pre316 t (XS.ifYes X310.here hx rfl (pc0 := 96) (pc' := 107) rfl (hb hby at_96) rfl ((if0 _ _).trans (teq (by decide : (0 : Int32) = (0 : Int32))).1) (by decide) (by decide) k)
          have pre318 : Go p e below T310 (mkF m 119 #[.val (.int p1), .val (.int (1 : Int32)), .val (.int (0 : Int32)), .val (.int (0 : Int32)), .val (.int (0 : Int32)), .val (.ref b302), .val (.ref w0), .val (.int (0 : Int32)), .val (.int (0 : Int32)), .val (.int (0 : Int32)), .unset] [(.int (0 : Int32))]) s₁ (entryFrame m #[(.int p1)] maxLocals) := fun t k => pre317 t (by
              show Steps p.tables e below (T310.setTop (mkF m 107 #[.val (.int p1), .val (.int (1 : Int32)), .val (.int (0 : Int32)), .val (.int (0 : Int32)), .val (.int (0 : Int32)), .val (.ref b302), .val (.ref w0), .val (.int (0 : Int32)), .unset, .unset, .unset] [])) t
              refine XS.iconst X310.here hx rfl (hb hby at_107) ?_
              show Steps p.tables e below (T310.setTop (mkF m 108 #[.val (.int p1), .val (.int (1 : Int32)), .val (.int (0 : Int32)), .val (.int (0 : Int32)), .val (.int (0 : Int32)), .val (.ref b302), .val (.ref w0), .val (.int (0 : Int32)), .unset, .unset, .unset] [(.int (0 : Int32))])) t
              refine XS.istore X310.here hx rfl (hb hby at_108) rfl (l' := #[.val (.int p1), .val (.int (1 : Int32)), .val (.int (0 : Int32)), .val (.int (0 : Int32)), .val (.int (0 : Int32)), .val (.ref b302), .val (.ref w0), .val (.int (0 : Int32)), .val (.int (0 : Int32)), .unset, .unset]) rfl ?_
              show Steps p.tables e below (T310.setTop (mkF m 110 #[.val (.int p1), .val (.int (1 : Int32)), .val (.int (0 : Int32)), .val (.int (0 : Int32)), .val (.int (0 : Int32)), .val (.ref b302), .val (.ref w0), .val (.int (0 : Int32)), .val (.int (0 : Int32)), .unset, .unset] [])) t
              refine XS.iload X310.here hx rfl (hb hby at_110) rfl ?_
              show Steps p.tables e below (T310.setTop (mkF m 112 #[.val (.int p1), .val (.int (1 : Int32)), .val (.int (0 : Int32)), .val (.int (0 : Int32)), .val (.int (0 : Int32)), .val (.ref b302), .val (.ref w0), .val (.int (0 : Int32)), .val (.int (0 : Int32)), .unset, .unset] [(.int (0 : Int32))])) t
              refine XS.iload X310.here hx rfl (hb hby at_112) rfl ?_
              show Steps p.tables e below (T310.setTop (mkF m 114 #[.val (.int p1), .val (.int (1 : Int32)), .val (.int (0 : Int32)), .val (.int (0 : Int32)), .val (.int (0 : Int32)), .val (.ref b302), .val (.ref w0), .val (.int (0 : Int32)), .val (.int (0 : Int32)), .unset, .unset] [(.int (0 : Int32)), (.int (0 : Int32))])) t
              refine XS.isub X310.here hx rfl (hb hby at_114) rfl ?_
              show Steps p.tables e below (T310.setTop (mkF m 115 #[.val (.int p1), .val (.int (1 : Int32)), .val (.int (0 : Int32)), .val (.int (0 : Int32)), .val (.int (0 : Int32)), .val (.ref b302), .val (.ref w0), .val (.int (0 : Int32)), .val (.int (0 : Int32)), .unset, .unset] [(.int (0 : Int32))])) t
              refine XS.istore X310.here hx rfl (hb hby at_115) rfl (l' := #[.val (.int p1), .val (.int (1 : Int32)), .val (.int (0 : Int32)), .val (.int (0 : Int32)), .val (.int (0 : Int32)), .val (.ref b302), .val (.ref w0), .val (.int (0 : Int32)), .val (.int (0 : Int32)), .val (.int (0 : Int32)), .unset]) rfl ?_
              show Steps p.tables e below (T310.setTop (mkF m 117 #[.val (.int p1), .val (.int (1 : Int32)), .val (.int (0 : Int32)), .val (.int (0 : Int32)), .val (.int (0 : Int32)), .val (.ref b302), .val (.ref w0), .val (.int (0 : Int32)), .val (.int (0 : Int32)), .val (.int (0 : Int32)), .unset] [])) t
              refine XS.iload X310.here hx rfl (hb hby at_117) rfl ?_
              exact k)
          have pre319 : Go p e below T310 (mkF m 130 #[.val (.int p1), .val (.int (1 : Int32)), .val (.int (0 : Int32)), .val (.int (0 : Int32)), .val (.int (0 : Int32)), .val (.ref b302), .val (.ref w0), .val (.int (0 : Int32)), .val (.int (0 : Int32)), .val (.int (0 : Int32)), .unset] []) s₁ (entryFrame m #[(.int p1)] maxLocals) := fun t k => pre318 t (XS.ifYes X310.here hx rfl (pc0 := 119) (pc' := 130) rfl (hb hby at_119) rfl ((if0 _ _).trans (flt (by decide : ¬ ((0 : Int32) < (0 : Int32)))).2.2.2) (by decide) (by decide) k)
          have pre320 : Go p e below T310 (mkF m 132 #[.val (.int p1), .val (.int (1 : Int32)), .val (.int (0 : Int32)), .val (.int (0 : Int32)), .val (.int (0 : Int32)), .val (.ref b302), .val (.ref w0), .val (.int (0 : Int32)), .val (.int (0 : Int32)), .val (.int (0 : Int32)), .unset] [(.int (0 : Int32))]) s₁ (entryFrame m #[(.int p1)] maxLocals) := fun t k => pre319 t (by
              show Steps p.tables e below (T310.setTop (mkF m 130 #[.val (.int p1), .val (.int (1 : Int32)), .val (.int (0 : Int32)), .val (.int (0 : Int32)), .val (.int (0 : Int32)), .val (.ref b302), .val (.ref w0), .val (.int (0 : Int32)), .val (.int (0 : Int32)), .val (.int (0 : Int32)), .unset] [])) t
              refine XS.iload X310.here hx rfl (hb hby at_130) rfl ?_
              exact k)
          have pre321 : Go p e below T310 (mkF m 143 #[.val (.int p1), .val (.int (1 : Int32)), .val (.int (0 : Int32)), .val (.int (0 : Int32)), .val (.int (0 : Int32)), .val (.ref b302), .val (.ref w0), .val (.int (0 : Int32)), .val (.int (0 : Int32)), .val (.int (0 : Int32)), .unset] []) s₁ (entryFrame m #[(.int p1)] maxLocals) := fun t k => pre320 t (XS.ifYes X310.here hx rfl (pc0 := 132) (pc' := 143) rfl (hb hby at_132) rfl ((if0 _ _).trans (flt (by decide : ¬ ((0 : Int32) < (0 : Int32)))).2.1) (by decide) (by decide) k)
          obtain ⟨T322, X322, e322, st322⟩ := getS2 X310 hx hZ hown (host := "") (Or.inl (hw _ (List.mem_of_getElem? (i := 30) rfl))) Via.refl e310 (S0.ext O308.2) (g := (mkF m 143 #[.val (.int p1), .val (.int (1 : Int32)), .val (.int (0 : Int32)), .val (.int (0 : Int32)), .val (.int (0 : Int32)), .val (.ref b302), .val (.ref w0), .val (.int (0 : Int32)), .val (.int (0 : Int32)), .val (.int (0 : Int32)), .unset] [])) rfl (hb hby at_143)
          have pre323 : Go p e below T322 (mkF m 146 #[.val (.int p1), .val (.int (1 : Int32)), .val (.int (0 : Int32)), .val (.int (0 : Int32)), .val (.int (0 : Int32)), .val (.ref b302), .val (.ref w0), .val (.int (0 : Int32)), .val (.int (0 : Int32)), .val (.int (0 : Int32)), .unset] [(.ref w0)]) s₁ (entryFrame m #[(.int p1)] maxLocals) := fun t k => pre321 t (st322 t k)
          have pre324 : Go p e below T322 (mkF m 152 #[.val (.int p1), .val (.int (1 : Int32)), .val (.int (0 : Int32)), .val (.int (0 : Int32)), .val (.int (0 : Int32)), .val (.ref b302), .val (.ref w0), .val (.int (0 : Int32)), .val (.int (0 : Int32)), .val (.int (0 : Int32)), .val (.ref w0)] [(.ref w0), (.ref w0)]) s₁ (entryFrame m #[(.int p1)] maxLocals) := fun t k => pre323 t (by
              show Steps p.tables e below (T322.setTop (mkF m 146 #[.val (.int p1), .val (.int (1 : Int32)), .val (.int (0 : Int32)), .val (.int (0 : Int32)), .val (.int (0 : Int32)), .val (.ref b302), .val (.ref w0), .val (.int (0 : Int32)), .val (.int (0 : Int32)), .val (.int (0 : Int32)), .unset] [(.ref w0)])) t
              refine XS.astore X322.here hx rfl (hb hby at_146) rfl rfl (l' := #[.val (.int p1), .val (.int (1 : Int32)), .val (.int (0 : Int32)), .val (.int (0 : Int32)), .val (.int (0 : Int32)), .val (.ref b302), .val (.ref w0), .val (.int (0 : Int32)), .val (.int (0 : Int32)), .val (.int (0 : Int32)), .val (.ref w0)]) rfl ?_
              show Steps p.tables e below (T322.setTop (mkF m 148 #[.val (.int p1), .val (.int (1 : Int32)), .val (.int (0 : Int32)), .val (.int (0 : Int32)), .val (.int (0 : Int32)), .val (.ref b302), .val (.ref w0), .val (.int (0 : Int32)), .val (.int (0 : Int32)), .val (.int (0 : Int32)), .val (.ref w0)] [])) t
              refine XS.aload X322.here hx rfl (hb hby at_148) rfl rfl ?_
              show Steps p.tables e below (T322.setTop (mkF m 150 #[.val (.int p1), .val (.int (1 : Int32)), .val (.int (0 : Int32)), .val (.int (0 : Int32)), .val (.int (0 : Int32)), .val (.ref b302), .val (.ref w0), .val (.int (0 : Int32)), .val (.int (0 : Int32)), .val (.int (0 : Int32)), .val (.ref w0)] [(.ref w0)])) t
              refine XS.aload X322.here hx rfl (hb hby at_150) rfl rfl ?_
              exact k)
          have pre325 : Go p e below T322 (mkF m 155 #[.val (.int p1), .val (.int (1 : Int32)), .val (.int (0 : Int32)), .val (.int (0 : Int32)), .val (.int (0 : Int32)), .val (.ref b302), .val (.ref w0), .val (.int (0 : Int32)), .val (.int (0 : Int32)), .val (.int (0 : Int32)), .val (.ref w0)] []) s₁ (entryFrame m #[(.int p1)] maxLocals) := fun t k => pre324 t (Jvm.RoadKit.acmp (g := (mkF m 152 #[.val (.int p1), .val (.int (1 : Int32)), .val (.int (0 : Int32)), .val (.int (0 : Int32)), .val (.int (0 : Int32)), .val (.ref b302), .val (.ref w0), .val (.int (0 : Int32)), .val (.int (0 : Int32)), .val (.int (0 : Int32)), .val (.ref w0)] [(.ref w0), (.ref w0)])) X322 hx rfl rfl rfl (pc0 := 152) (pc' := 155) (same := true) rfl (hb hby at_152) rfl (decide_eq_true rfl) (by decide) (by decide) k)
          have pre326 : Go p e below T322 (mkF m 160 #[.val (.int p1), .val (.int (1 : Int32)), .val (.int (0 : Int32)), .val (.int (0 : Int32)), .val (.int (0 : Int32)), .val (.ref b302), .val (.ref w0), .val (.int (0 : Int32)), .val (.int (0 : Int32)), .val (.int (0 : Int32)), .val (.ref w0)] [(.int (1 : Int32))]) s₁ (entryFrame m #[(.int p1)] maxLocals) := fun t k => pre325 t (by
              show Steps p.tables e below (T322.setTop (mkF m 155 #[.val (.int p1), .val (.int (1 : Int32)), .val (.int (0 : Int32)), .val (.int (0 : Int32)), .val (.int (0 : Int32)), .val (.ref b302), .val (.ref w0), .val (.int (0 : Int32)), .val (.int (0 : Int32)), .val (.int (0 : Int32)), .val (.ref w0)] [])) t
              refine XS.iconst X322.here hx rfl (hb hby at_155) ?_
              show Steps p.tables e below (T322.setTop (mkF m 156 #[.val (.int p1), .val (.int (1 : Int32)), .val (.int (0 : Int32)), .val (.int (0 : Int32)), .val (.int (0 : Int32)), .val (.ref b302), .val (.ref w0), .val (.int (0 : Int32)), .val (.int (0 : Int32)), .val (.int (0 : Int32)), .val (.ref w0)] [(.int (1 : Int32))])) t
              refine XS.goto X322.here hx rfl (pc0 := 156) (pc' := 160) rfl (hb hby at_156) (by decide) (by decide) ?_
              exact k)
          have hnr : Value.int (nar .boolean (1 : Int32)) = (.int (1 : Int32)) := by rfl
          obtain ⟨fs, hr, hrun, hended, hW, hsame⟩ := X322.leave (v := some (.int (1 : Int32))) (fun h => by rw [Bd.returns] at h; cases h)
          refine ⟨_, _, pre326 _ (retN X322 hx (t := .boolean) Bd.returns (by simp) (hb hby at_160) (hnr ▸ hr)), hrun, hended, _, _, rfl, ?_, ⟨_, rfl⟩, hW, hsame.mono (by decide) (by decide)⟩
          show QL Z p1 w0 w1 w2 h0 n0 _ T322.heap _
          rw [e322]
          exact ⟨rfl, N310⟩
        · have pre327 : Go p e below s₁ (mkF m 47 #[.val (.int p1), .val (.int (1 : Int32)), .val (.int (0 : Int32)), .val (.int (0 : Int32)), .unset, .unset, .unset, .unset, .unset, .unset, .unset] []) s₁ (entryFrame m #[(.int p1)] maxLocals) := fun t k => pre299 t (XS.ifNo X0.here hx rfl (hb hby at_44) rfl ((if0 _ _).trans (feq hc44).1) k)
          have pre328 : Go p e below s₁ (mkF m 48 #[.val (.int p1), .val (.int (1 : Int32)), .val (.int (0 : Int32)), .val (.int (0 : Int32)), .unset, .unset, .unset, .unset, .unset, .unset, .unset] [(.int (0 : Int32))]) s₁ (entryFrame m #[(.int p1)] maxLocals) := fun t k => pre327 t (by
              show Steps p.tables e below (s₁.setTop (mkF m 47 #[.val (.int p1), .val (.int (1 : Int32)), .val (.int (0 : Int32)), .val (.int (0 : Int32)), .unset, .unset, .unset, .unset, .unset, .unset, .unset] [])) t
              refine XS.iloadN X0.here hx rfl (hb hby at_47) rfl ?_
              exact k)
          have pre329 : Go p e below s₁ (mkF m 51 #[.val (.int p1), .val (.int (1 : Int32)), .val (.int (0 : Int32)), .val (.int (0 : Int32)), .unset, .unset, .unset, .unset, .unset, .unset, .unset] []) s₁ (entryFrame m #[(.int p1)] maxLocals) := fun t k => pre328 t (XS.ifNo X0.here hx rfl (hb hby at_48) rfl ((if0 _ _).trans (teq (by decide : (0 : Int32) = (0 : Int32))).2) k)
          have pre330 : Go p e below s₁ (mkF m 58 #[.val (.int p1), .val (.int (1 : Int32)), .val (.int (0 : Int32)), .val (.int (0 : Int32)), .val (.int (1 : Int32)), .unset, .unset, .unset, .unset, .unset, .unset] []) s₁ (entryFrame m #[(.int p1)] maxLocals) := fun t k => pre329 t (by
              show Steps p.tables e below (s₁.setTop (mkF m 51 #[.val (.int p1), .val (.int (1 : Int32)), .val (.int (0 : Int32)), .val (.int (0 : Int32)), .unset, .unset, .unset, .unset, .unset, .unset, .unset] [])) t
              refine XS.iconst X0.here hx rfl (hb hby at_51) ?_
              show Steps p.tables e below (s₁.setTop (mkF m 52 #[.val (.int p1), .val (.int (1 : Int32)), .val (.int (0 : Int32)), .val (.int (0 : Int32)), .unset, .unset, .unset, .unset, .unset, .unset, .unset] [(.int (1 : Int32))])) t
              refine XS.goto X0.here hx rfl (pc0 := 52) (pc' := 56) rfl (hb hby at_52) (by decide) (by decide) ?_
              show Steps p.tables e below (s₁.setTop (mkF m 56 #[.val (.int p1), .val (.int (1 : Int32)), .val (.int (0 : Int32)), .val (.int (0 : Int32)), .unset, .unset, .unset, .unset, .unset, .unset, .unset] [(.int (1 : Int32))])) t
              refine XS.istore X0.here hx rfl (hb hby at_56) rfl (l' := #[.val (.int p1), .val (.int (1 : Int32)), .val (.int (0 : Int32)), .val (.int (0 : Int32)), .val (.int (1 : Int32)), .unset, .unset, .unset, .unset, .unset, .unset]) rfl ?_
              exact k)
          obtain ⟨T331, h331, X331, e331, E331, A331, D331, U331, st331⟩ := newO X0 hx hZ hown (hw _ (List.mem_of_getElem? (i := 0) rfl)) (hw _ (List.mem_of_getElem? (i := 1) rfl)) (hw _ (List.mem_of_getElem? (i := 2) rfl)) e0 (g := (mkF m 58 #[.val (.int p1), .val (.int (1 : Int32)), .val (.int (0 : Int32)), .val (.int (0 : Int32)), .val (.int (1 : Int32)), .unset, .unset, .unset, .unset, .unset, .unset] [])) rfl (hb hby at_58) (by decide) (by decide)
          obtain ⟨b331, g331⟩ : ∃ z, z = h0.size := ⟨_, rfl⟩
          rw [← g331] at A331 st331 D331
          have g_b331 : n0 ≤ b331 := Nat.le_trans Z0 (Nat.le_of_eq g331.symm)
          have pre332 : Go p e below T331 (mkF m 61 #[.val (.int p1), .val (.int (1 : Int32)), .val (.int (0 : Int32)), .val (.int (0 : Int32)), .val (.int (1 : Int32)), .unset, .unset, .unset, .unset, .unset, .unset] [(.ref b331)]) s₁ (entryFrame m #[(.int p1)] maxLocals) := fun t k => pre330 t (st331 t k)
          have O333 : Old Z n0 h331 := O0.ext E331
          have Z333 : n0 ≤ h331.size := Nat.le_trans Z0 E331.1
          have F_seesLeft_b331 : Fld Z h331 b331 "com/example/picketline/picketline/protocol/Surroundings" "seesLeft" "Z" (.int (0 : Int32)) := D331 (Or.inr (hw _ (List.mem_of_getElem? (i := 15) rfl))) (ty := .boolean) (by decide)
          have F_seesRight_b331 : Fld Z h331 b331 "com/example/picketline/picketline/protocol/Surroundings" "seesRight" "Z" (.int (0 : Int32)) := D331 (Or.inr (hw _ (List.mem_of_getElem? (i := 17) rfl))) (ty := .boolean) (by decide)
          have F_gapLeft_b331 : Fld Z h331 b331 "com/example/picketline/picketline/protocol/Surroundings" "gapLeft" "Z" (.int (0 : Int32)) := D331 (Or.inr (hw _ (List.mem_of_getElem? (i := 19) rfl))) (ty := .boolean) (by decide)
          have F_gapRight_b331 : Fld Z h331 b331 "com/example/picketline/picketline/protocol/Surroundings" "gapRight" "Z" (.int (0 : Int32)) := D331 (Or.inr (hw _ (List.mem_of_getElem? (i := 21) rfl))) (ty := .boolean) (by decide)
          have pre334 : Go p e below T331 (mkF m 67 #[.val (.int p1), .val (.int (1 : Int32)), .val (.int (0 : Int32)), .val (.int (0 : Int32)), .val (.int (1 : Int32)), .unset, .unset, .unset, .unset, .unset, .unset] [(.int (1 : Int32)), (.int (0 : Int32)), (.int (0 : Int32)), (.int (1 : Int32)), (.ref b331), (.ref b331)]) s₁ (entryFrame m #[(.int p1)] maxLocals) := fun t k => pre332 t (by
              show Steps p.tables e below (T331.setTop (mkF m 61 #[.val (.int p1), .val (.int (1 : Int32)), .val (.int (0 : Int32)), .val (.int (0 : Int32)), .val (.int (1 : Int32)), .unset, .unset, .unset, .unset, .unset, .unset] [(.ref b331)])) t
              refine XS.dup X331.here hx rfl (hb hby at_61) rfl rfl ?_
              show Steps p.tables e below (T331.setTop (mkF m 62 #[.val (.int p1), .val (.int (1 : Int32)), .val (.int (0 : Int32)), .val (.int (0 : Int32)), .val (.int (1 : Int32)), .unset, .unset, .unset, .unset, .unset, .unset] [(.ref b331), (.ref b331)])) t
              refine XS.iloadN X331.here hx rfl (hb hby at_62) rfl ?_
              show Steps p.tables e below (T331.setTop (mkF m 63 #[.val (.int p1), .val (.int (1 : Int32)), .val (.int (0 : Int32)), .val (.int (0 : Int32)), .val (.int (1 : Int32)), .unset, .unset, .unset, .unset, .unset, .unset] [(.int (1 : Int32)), (.ref b331), (.ref b331)])) t
              refine XS.iloadN X331.here hx rfl (hb hby at_63) rfl ?_
              show Steps p.tables e below (T331.setTop (mkF m 64 #[.val (.int p1), .val (.int (1 : Int32)), .val (.int (0 : Int32)), .val (.int (0 : Int32)), .val (.int (1 : Int32)), .unset, .unset, .unset, .unset, .unset, .unset] [(.int (0 : Int32)), (.int (1 : Int32)), (.ref b331), (.ref b331)])) t
              refine XS.iloadN X331.here hx rfl (hb hby at_64) rfl ?_
              show Steps p.tables e below (T331.setTop (mkF m 65 #[.val (.int p1), .val (.int (1 : Int32)), .val (.int (0 : Int32)), .val (.int (0 : Int32)), .val (.int (1 : Int32)), .unset, .unset, .unset, .unset, .unset, .unset] [(.int (0 : Int32)), (.int (0 : Int32)), (.int (1 : Int32)), (.ref b331), (.ref b331)])) t
              refine XS.iload X331.here hx rfl (hb hby at_65) rfl ?_
              exact k)
          obtain ⟨_, _, ⟨T335, L335, k335, n335⟩, -, X335, ⟨Lc335, hQ335, l335, y335, z335⟩, st335⟩ := X331.specialBack hx (y := (⟨"com/example/picketline/picketline/protocol/Surroundings", "<init>", "(ZZZZ)V"⟩ : MethodName)) rfl hown (mvT hZ (hw _ (List.mem_of_getElem? (i := 3) rfl))) (mvT hZ (hw _ (List.mem_of_getElem? (i := 4) rfl))) (mvT hZ (hw _ (List.mem_of_getElem? (i := 5) rfl))) (by decide) (backOf (W := 1) (rmC l Z a0 hw [] b331 (1 : Int32) (0 : Int32) (0 : Int32) (1 : Int32) h331 n0 Z333 A331 g_b331 F_seesLeft_b331 F_seesRight_b331 F_gapLeft_b331 F_gapRight_b331 rfl rfl rfl rfl rfl rfl rfl rfl) hZ (hw _ (List.mem_of_getElem? (i := 5) rfl)) (hw _ (List.mem_of_getElem? (i := 2) rfl)) (by decide) (by decide)) (g := (mkF m 67 #[.val (.int p1), .val (.int (1 : Int32)), .val (.int (0 : Int32)), .val (.int (0 : Int32)), .val (.int (1 : Int32)), .unset, .unset, .unset, .unset, .unset, .unset] [(.int (1 : Int32)), (.int (0 : Int32)), (.int (0 : Int32)), (.int (1 : Int32)), (.ref b331), (.ref b331)])) rfl (by rw [hml]; rfl) (Steps.refl _) (a := b331) (argsL := [(.int (1 : Int32)), (.int (0 : Int32)), (.int (0 : Int32)), (.int (1 : Int32))]) (rest := [(.ref b331)]) (lenOf pdL_0 rfl) rfl (by show 2 * 0 + _ ≤ _; exact Nat.le_of_eq rfl) (hb hby at_67) (fun _ _ => ⟨rfl, e331, (by decide : 1 + 0 ≤ _), (by decide : 4 + 0 ≤ _)⟩)
          dsimp only [Pt.U, Pt.locs, Pt.cells, Pt.slots] at X335 l335 y335 z335 st335 hQ335
          subst l335 y335 z335
          obtain ⟨rfl, N335q, K335, EX335, G0_335, G1_335, G2_335, G3_335⟩ := hQ335
          have N335 := Fr.app N0 N335q
          have pre336 : Go p e below T335 (mkF m 70 #[.val (.int p1), .val (.int (1 : Int32)), .val (.int (0 : Int32)), .val (.int (0 : Int32)), .val (.int (1 : Int32)), .unset, .unset, .unset, .unset, .unset, .unset] [(.ref b331)]) s₁ (entryFrame m #[(.int p1)] maxLocals) := fun t k => pre334 t (st335.trans k)
          have O337 : Old Z n0 T335.heap := O333.keep K335 (allS g_b331 all0)
          have Z337 : n0 ≤ T335.heap.size := Nat.le_trans Z333 K335.1
          have pre338 : Go p e below T335 (mkF m 74 #[.val (.int p1), .val (.int (1 : Int32)), .val (.int (0 : Int32)), .val (.int (0 : Int32)), .val (.int (1 : Int32)), .val (.ref b331), .unset, .unset, .unset, .unset, .unset] [(.ref b331)]) s₁ (entryFrame m #[(.int p1)] maxLocals) := fun t k => pre336 t (by
              show Steps p.tables e below (T335.setTop (mkF m 70 #[.val (.int p1), .val (.int (1 : Int32)), .val (.int (0 : Int32)), .val (.int (0 : Int32)), .val (.int (1 : Int32)), .unset, .unset, .unset, .unset, .unset, .unset] [(.ref b331)])) t
              refine XS.astore X335.here hx rfl (hb hby at_70) rfl rfl (l' := #[.val (.int p1), .val (.int (1 : Int32)), .val (.int (0 : Int32)), .val (.int (0 : Int32)), .val (.int (1 : Int32)), .val (.ref b331), .unset, .unset, .unset, .unset, .unset]) rfl ?_
              show Steps p.tables e below (T335.setTop (mkF m 72 #[.val (.int p1), .val (.int (1 : Int32)), .val (.int (0 : Int32)), .val (.int (0 : Int32)), .val (.int (1 : Int32)), .val (.ref b331), .unset, .unset, .unset, .unset, .unset] [])) t
              refine XS.aload X335.here hx rfl (hb hby at_72) rfl rfl ?_
              exact k)
          obtain ⟨cq339, kq339, q339a, q339b, q339c⟩ := isOf hZ rfl EX335
          obtain ⟨_, _, ⟨T339, L339, k339, n339⟩, -, X339, ⟨Lc339, hQ339, l339, y339, z339⟩, st339⟩ := X335.virtualBack hx (y := (⟨"com/example/picketline/picketline/protocol/Surroundings", "towardGap", "()Lcom/example/picketline/picketline/protocol/Heading;"⟩ : MethodName)) (z := (⟨"com/example/picketline/picketline/protocol/Surroundings", "towardGap", "()Lcom/example/picketline/picketline/protocol/Heading;"⟩ : MethodName)) hown (mvT hZ (hw _ (List.mem_of_getElem? (i := 22) rfl))) (mvT hZ (hw _ (List.mem_of_getElem? (i := 23) rfl))) (notFace_of_selects (args := #[]) (mvT hZ (hw _ (List.mem_of_getElem? (i := 25) rfl)))) (mvT hZ (hw _ (List.mem_of_getElem? (i := 25) rfl))) (mvT hZ (hw _ (List.mem_of_getElem? (i := 24) rfl))) (by decide) (backOf (W := 0) (rmT l Z a0 hw [] b331 (1 : Int32) (0 : Int32) (0 : Int32) (1 : Int32) w0 w1 w2 w2 T335.heap n0 Z337 G0_335 G1_335 G2_335 G3_335 (S0.ext O337.2) (S1.ext O337.2) (S2.ext O337.2) (by simp [towF])) hZ (hw _ (List.mem_of_getElem? (i := 26) rfl)) (hw _ (List.mem_of_getElem? (i := 2) rfl)) (by decide) (by decide)) q339a q339c (g := (mkF m 74 #[.val (.int p1), .val (.int (1 : Int32)), .val (.int (0 : Int32)), .val (.int (0 : Int32)), .val (.int (1 : Int32)), .val (.ref b331), .unset, .unset, .unset, .unset, .unset] [(.ref b331)])) rfl (by rw [hml]; rfl) (Steps.refl _) (argsL := []) (rest := []) (lenOf pdL_1 rfl) rfl (by show 2 * 0 + _ ≤ _; exact Nat.le_of_eq rfl) (hb hby at_74) (fun _ _ => ⟨rfl, rfl, (by decide : 1 + 0 ≤ _), (by decide : 4 + 0 ≤ _)⟩)
          dsimp only [Pt.U, Pt.locs, Pt.cells, Pt.slots] at X339 l339 y339 z339 st339 hQ339
          subst l339 y339 z339
          obtain ⟨rfl, N339q, hq339⟩ := hQ339
          have N339 := Fr.app N335 N339q
          have pre340 : Go p e below T339 (mkF m 77 #[.val (.int p1), .val (.int (1 : Int32)), .val (.int (0 : Int32)), .val (.int (0 : Int32)), .val (.int (1 : Int32)), .val (.ref b331), .unset, .unset, .unset, .unset, .unset] [(.ref w2)]) s₁ (entryFrame m #[(.int p1)] maxLocals) := fun t k => pre338 t (st339.trans k)
          have e339 : T339.heap = T335.heap := hq339
          have pre341 : Go p e below T339 (mkF m 80 #[.val (.int p1), .val (.int (1 : Int32)), .val (.int (0 : Int32)), .val (.int (0 : Int32)), .val (.int (1 : Int32)), .val (.ref b331), .val (.ref w2), .unset, .unset, .unset, .unset] [(.int (1 : Int32))]) s₁ (entryFrame m #[(.int p1)] maxLocals) := fun t k => pre340 t (by
              show Steps p.tables e below (T339.setTop (mkF m 77 #[.val (.int p1), .val (.int (1 : Int32)), .val (.int (0 : Int32)), .val (.int (0 : Int32)), .val (.int (1 : Int32)), .val (.ref b331), .unset, .unset, .unset, .unset, .unset] [(.ref w2)])) t
              refine XS.astore X339.here hx rfl (hb hby at_77) rfl rfl (l' := #[.val (.int p1), .val (.int (1 : Int32)), .val (.int (0 : Int32)), .val (.int (0 : Int32)), .val (.int (1 : Int32)), .val (.ref b331), .val (.ref w2), .unset, .unset, .unset, .unset]) rfl ?_
              show Steps p.tables e below (T339.setTop (mkF m 79 #[.val (.int p1), .val (.int (1 : Int32)), .val (.int (0 : Int32)), .val (.int (0 : Int32)), .val (.int (1 : Int32)), .val (.ref b331), .val (.ref w2), .unset, .unset, .unset, .unset] [])) t
              refine XS.iloadN X339.here hx rfl (hb hby at_79) rfl ?_
              exact k)
          have pre342 : Go p e below T339 (mkF m 83 #[.val (.int p1), .val (.int (1 : Int32)), .val (.int (0 : Int32)), .val (.int (0 : Int32)), .val (.int (1 : Int32)), .val (.ref b331), .val (.ref w2), .unset, .unset, .unset, .unset] []) s₁ (entryFrame m #[(.int p1)] maxLocals) := fun t k => pre341 t (XS.ifNo X339.here hx rfl (hb hby at_80) rfl ((if0 _ _).trans (feq (by decide : ¬ ((1 : Int32) = (0 : Int32)))).1) k)
          have pre343 : Go p e below T339 (mkF m 85 #[.val (.int p1), .val (.int (1 : Int32)), .val (.int (0 : Int32)), .val (.int (0 : Int32)), .val (.int (1 : Int32)), .val (.ref b331), .val (.ref w2), .unset, .unset, .unset, .unset] [(.int (1 : Int32))]) s₁ (entryFrame m #[(.int p1)] maxLocals) := fun t k => pre342 t (by
              show Steps p.tables e below (T339.setTop (mkF m 83 #[.val (.int p1), .val (.int (1 : Int32)), .val (.int (0 : Int32)), .val (.int (0 : Int32)), .val (.int (1 : Int32)), .val (.ref b331), .val (.ref w2), .unset, .unset, .unset, .unset] [])) t
              refine XS.iload X339.here hx rfl (hb hby at_83) rfl ?_
              exact k)
          have pre344 : Go p e below T339 (mkF m 88 #[.val (.int p1), .val (.int (1 : Int32)), .val (.int (0 : Int32)), .val (.int (0 : Int32)), .val (.int (1 : Int32)), .val (.ref b331), .val (.ref w2), .unset, .unset, .unset, .unset] []) s₁ (entryFrame m #[(.int p1)] maxLocals) := fun t k => pre343 t (XS.ifNo X339.here hx rfl (hb hby at_85) rfl ((if0 _ _).trans (feq (by decide : ¬ ((1 : Int32) = (0 : Int32)))).1) k)
          have pre345 : Go p e below T339 (mkF m 96 #[.val (.int p1), .val (.int (1 : Int32)), .val (.int (0 : Int32)), .val (.int (0 : Int32)), .val (.int (1 : Int32)), .val (.ref b331), .val (.ref w2), .val (.int (1 : Int32)), .unset, .unset, .unset] [(.int (0 : Int32))]) s₁ (entryFrame m #[(.int p1)] maxLocals) := fun t k => pre344 t (by
              show Steps p.tables e below (T339.setTop (mkF m 88 #[.val (.int p1), .val (.int (1 : Int32)), .val (.int (0 : Int32)), .val (.int (0 : Int32)), .val (.int (1 : Int32)), .val (.ref b331), .val (.ref w2), .unset, .unset, .unset, .unset] [])) t
              refine XS.iconst X339.here hx rfl (hb hby at_88) ?_
              show Steps p.tables e below (T339.setTop (mkF m 89 #[.val (.int p1), .val (.int (1 : Int32)), .val (.int (0 : Int32)), .val (.int (0 : Int32)), .val (.int (1 : Int32)), .val (.ref b331), .val (.ref w2), .unset, .unset, .unset, .unset] [(.int (1 : Int32))])) t
              refine XS.goto X339.here hx rfl (pc0 := 89) (pc' := 93) rfl (hb hby at_89) (by decide) (by decide) ?_
              show Steps p.tables e below (T339.setTop (mkF m 93 #[.val (.int p1), .val (.int (1 : Int32)), .val (.int (0 : Int32)), .val (.int (0 : Int32)), .val (.int (1 : Int32)), .val (.ref b331), .val (.ref w2), .unset, .unset, .unset, .unset] [(.int (1 : Int32))])) t
              refine XS.istore X339.here hx rfl (hb hby at_93) rfl (l' := #[.val (.int p1), .val (.int (1 : Int32)), .val (.int (0 : Int32)), .val (.int (0 : Int32)), .val (.int (1 : Int32)), .val (.ref b331), .val (.ref w2), .val (.int (1 : Int32)), .unset, .unset, .unset]) rfl ?_
              show Steps p.tables e below (T339.setTop (mkF m 95 #[.val (.int p1), .val (.int (1 : Int32)), .val (.int (0 : Int32)), .val (.int (0 : Int32)), .val (.int (1 : Int32)), .val (.ref b331), .val (.ref w2), .val (.int (1 : Int32)), .unset, .unset, .unset] [])) t
              refine XS.iloadN X339.here hx rfl (hb hby at_95) rfl ?_
              exact k)
          have pre346 : Go p e below T339 (mkF m 107 #[.val (.int p1), .val (.int (1 : Int32)), .val (.int (0 : Int32)), .val (.int (0 : Int32)), .val (.int (1 : Int32)), .val (.ref b331), .val (.ref w2), .val (.int (1 : Int32)), .unset, .unset, .unset] []) s₁ (entryFrame m #[(.int p1)] maxLocals) := fun t k => pre345 t (XS.ifYes X339.here hx rfl (pc0 := 96) (pc' := 107) rfl (hb hby at_96) rfl ((if0 _ _).trans (teq (by decide : (0 : Int32) = (0 : Int32))).1) (by decide) (by decide) k)
          have pre347 : Go p e below T339 (mkF m 119 #[.val (.int p1), .val (.int (1 : Int32)), .val (.int (0 : Int32)), .val (.int (0 : Int32)), .val (.int (1 : Int32)), .val (.ref b331), .val (.ref w2), .val (.int (1 : Int32)), .val (.int (0 : Int32)), .val (.int (1 : Int32)), .unset] [(.int (1 : Int32))]) s₁ (entryFrame m #[(.int p1)] maxLocals) := fun t k => pre346 t (by
              show Steps p.tables e below (T339.setTop (mkF m 107 #[.val (.int p1), .val (.int (1 : Int32)), .val (.int (0 : Int32)), .val (.int (0 : Int32)), .val (.int (1 : Int32)), .val (.ref b331), .val (.ref w2), .val (.int (1 : Int32)), .unset, .unset, .unset] [])) t
              refine XS.iconst X339.here hx rfl (hb hby at_107) ?_
              show Steps p.tables e below (T339.setTop (mkF m 108 #[.val (.int p1), .val (.int (1 : Int32)), .val (.int (0 : Int32)), .val (.int (0 : Int32)), .val (.int (1 : Int32)), .val (.ref b331), .val (.ref w2), .val (.int (1 : Int32)), .unset, .unset, .unset] [(.int (0 : Int32))])) t
              refine XS.istore X339.here hx rfl (hb hby at_108) rfl (l' := #[.val (.int p1), .val (.int (1 : Int32)), .val (.int (0 : Int32)), .val (.int (0 : Int32)), .val (.int (1 : Int32)), .val (.ref b331), .val (.ref w2), .val (.int (1 : Int32)), .val (.int (0 : Int32)), .unset, .unset]) rfl ?_
              show Steps p.tables e below (T339.setTop (mkF m 110 #[.val (.int p1), .val (.int (1 : Int32)), .val (.int (0 : Int32)), .val (.int (0 : Int32)), .val (.int (1 : Int32)), .val (.ref b331), .val (.ref w2), .val (.int (1 : Int32)), .val (.int (0 : Int32)), .unset, .unset] [])) t
              refine XS.iload X339.here hx rfl (hb hby at_110) rfl ?_
              show Steps p.tables e below (T339.setTop (mkF m 112 #[.val (.int p1), .val (.int (1 : Int32)), .val (.int (0 : Int32)), .val (.int (0 : Int32)), .val (.int (1 : Int32)), .val (.ref b331), .val (.ref w2), .val (.int (1 : Int32)), .val (.int (0 : Int32)), .unset, .unset] [(.int (1 : Int32))])) t
              refine XS.iload X339.here hx rfl (hb hby at_112) rfl ?_
              show Steps p.tables e below (T339.setTop (mkF m 114 #[.val (.int p1), .val (.int (1 : Int32)), .val (.int (0 : Int32)), .val (.int (0 : Int32)), .val (.int (1 : Int32)), .val (.ref b331), .val (.ref w2), .val (.int (1 : Int32)), .val (.int (0 : Int32)), .unset, .unset] [(.int (0 : Int32)), (.int (1 : Int32))])) t
              refine XS.isub X339.here hx rfl (hb hby at_114) rfl ?_
              show Steps p.tables e below (T339.setTop (mkF m 115 #[.val (.int p1), .val (.int (1 : Int32)), .val (.int (0 : Int32)), .val (.int (0 : Int32)), .val (.int (1 : Int32)), .val (.ref b331), .val (.ref w2), .val (.int (1 : Int32)), .val (.int (0 : Int32)), .unset, .unset] [(.int (1 : Int32))])) t
              refine XS.istore X339.here hx rfl (hb hby at_115) rfl (l' := #[.val (.int p1), .val (.int (1 : Int32)), .val (.int (0 : Int32)), .val (.int (0 : Int32)), .val (.int (1 : Int32)), .val (.ref b331), .val (.ref w2), .val (.int (1 : Int32)), .val (.int (0 : Int32)), .val (.int (1 : Int32)), .unset]) rfl ?_
              show Steps p.tables e below (T339.setTop (mkF m 117 #[.val (.int p1), .val (.int (1 : Int32)), .val (.int (0 : Int32)), .val (.int (0 : Int32)), .val (.int (1 : Int32)), .val (.ref b331), .val (.ref w2), .val (.int (1 : Int32)), .val (.int (0 : Int32)), .val (.int (1 : Int32)), .unset] [])) t
              refine XS.iload X339.here hx rfl (hb hby at_117) rfl ?_
              exact k)
          have pre348 : Go p e below T339 (mkF m 122 #[.val (.int p1), .val (.int (1 : Int32)), .val (.int (0 : Int32)), .val (.int (0 : Int32)), .val (.int (1 : Int32)), .val (.ref b331), .val (.ref w2), .val (.int (1 : Int32)), .val (.int (0 : Int32)), .val (.int (1 : Int32)), .unset] []) s₁ (entryFrame m #[(.int p1)] maxLocals) := fun t k => pre347 t (XS.ifNo X339.here hx rfl (hb hby at_119) rfl ((if0 _ _).trans (tlt (by decide : (0 : Int32) < (1 : Int32))).2.2.2) k)
          obtain ⟨T349, X349, e349, st349⟩ := getS2 X339 hx hZ hown (host := "") (Or.inl (hw _ (List.mem_of_getElem? (i := 36) rfl))) Via.refl e339 (S2.ext O337.2) (g := (mkF m 122 #[.val (.int p1), .val (.int (1 : Int32)), .val (.int (0 : Int32)), .val (.int (0 : Int32)), .val (.int (1 : Int32)), .val (.ref b331), .val (.ref w2), .val (.int (1 : Int32)), .val (.int (0 : Int32)), .val (.int (1 : Int32)), .unset] [])) rfl (hb hby at_122)
          have pre350 : Go p e below T349 (mkF m 125 #[.val (.int p1), .val (.int (1 : Int32)), .val (.int (0 : Int32)), .val (.int (0 : Int32)), .val (.int (1 : Int32)), .val (.ref b331), .val (.ref w2), .val (.int (1 : Int32)), .val (.int (0 : Int32)), .val (.int (1 : Int32)), .unset] [(.ref w2)]) s₁ (entryFrame m #[(.int p1)] maxLocals) := fun t k => pre348 t (st349 t k)
          have pre351 : Go p e below T349 (mkF m 152 #[.val (.int p1), .val (.int (1 : Int32)), .val (.int (0 : Int32)), .val (.int (0 : Int32)), .val (.int (1 : Int32)), .val (.ref b331), .val (.ref w2), .val (.int (1 : Int32)), .val (.int (0 : Int32)), .val (.int (1 : Int32)), .val (.ref w2)] [(.ref w2), (.ref w2)]) s₁ (entryFrame m #[(.int p1)] maxLocals) := fun t k => pre350 t (by
              show Steps p.tables e below (T349.setTop (mkF m 125 #[.val (.int p1), .val (.int (1 : Int32)), .val (.int (0 : Int32)), .val (.int (0 : Int32)), .val (.int (1 : Int32)), .val (.ref b331), .val (.ref w2), .val (.int (1 : Int32)), .val (.int (0 : Int32)), .val (.int (1 : Int32)), .unset] [(.ref w2)])) t
              refine XS.astore X349.here hx rfl (hb hby at_125) rfl rfl (l' := #[.val (.int p1), .val (.int (1 : Int32)), .val (.int (0 : Int32)), .val (.int (0 : Int32)), .val (.int (1 : Int32)), .val (.ref b331), .val (.ref w2), .val (.int (1 : Int32)), .val (.int (0 : Int32)), .val (.int (1 : Int32)), .val (.ref w2)]) rfl ?_
              show Steps p.tables e below (T349.setTop (mkF m 127 #[.val (.int p1), .val (.int (1 : Int32)), .val (.int (0 : Int32)), .val (.int (0 : Int32)), .val (.int (1 : Int32)), .val (.ref b331), .val (.ref w2), .val (.int (1 : Int32)), .val (.int (0 : Int32)), .val (.int (1 : Int32)), .val (.ref w2)] [])) t
              refine XS.goto X349.here hx rfl (pc0 := 127) (pc' := 148) rfl (hb hby at_127) (by decide) (by decide) ?_
              show Steps p.tables e below (T349.setTop (mkF m 148 #[.val (.int p1), .val (.int (1 : Int32)), .val (.int (0 : Int32)), .val (.int (0 : Int32)), .val (.int (1 : Int32)), .val (.ref b331), .val (.ref w2), .val (.int (1 : Int32)), .val (.int (0 : Int32)), .val (.int (1 : Int32)), .val (.ref w2)] [])) t
              refine XS.aload X349.here hx rfl (hb hby at_148) rfl rfl ?_
              show Steps p.tables e below (T349.setTop (mkF m 150 #[.val (.int p1), .val (.int (1 : Int32)), .val (.int (0 : Int32)), .val (.int (0 : Int32)), .val (.int (1 : Int32)), .val (.ref b331), .val (.ref w2), .val (.int (1 : Int32)), .val (.int (0 : Int32)), .val (.int (1 : Int32)), .val (.ref w2)] [(.ref w2)])) t
              refine XS.aload X349.here hx rfl (hb hby at_150) rfl rfl ?_
              exact k)
          have pre352 : Go p e below T349 (mkF m 155 #[.val (.int p1), .val (.int (1 : Int32)), .val (.int (0 : Int32)), .val (.int (0 : Int32)), .val (.int (1 : Int32)), .val (.ref b331), .val (.ref w2), .val (.int (1 : Int32)), .val (.int (0 : Int32)), .val (.int (1 : Int32)), .val (.ref w2)] []) s₁ (entryFrame m #[(.int p1)] maxLocals) := fun t k => pre351 t (Jvm.RoadKit.acmp (g := (mkF m 152 #[.val (.int p1), .val (.int (1 : Int32)), .val (.int (0 : Int32)), .val (.int (0 : Int32)), .val (.int (1 : Int32)), .val (.ref b331), .val (.ref w2), .val (.int (1 : Int32)), .val (.int (0 : Int32)), .val (.int (1 : Int32)), .val (.ref w2)] [(.ref w2), (.ref w2)])) X349 hx rfl rfl rfl (pc0 := 152) (pc' := 155) (same := true) rfl (hb hby at_152) rfl (decide_eq_true rfl) (by decide) (by decide) k)
          have pre353 : Go p e below T349 (mkF m 160 #[.val (.int p1), .val (.int (1 : Int32)), .val (.int (0 : Int32)), .val (.int (0 : Int32)), .val (.int (1 : Int32)), .val (.ref b331), .val (.ref w2), .val (.int (1 : Int32)), .val (.int (0 : Int32)), .val (.int (1 : Int32)), .val (.ref w2)] [(.int (1 : Int32))]) s₁ (entryFrame m #[(.int p1)] maxLocals) := fun t k => pre352 t (by
              show Steps p.tables e below (T349.setTop (mkF m 155 #[.val (.int p1), .val (.int (1 : Int32)), .val (.int (0 : Int32)), .val (.int (0 : Int32)), .val (.int (1 : Int32)), .val (.ref b331), .val (.ref w2), .val (.int (1 : Int32)), .val (.int (0 : Int32)), .val (.int (1 : Int32)), .val (.ref w2)] [])) t
              refine XS.iconst X349.here hx rfl (hb hby at_155) ?_
              show Steps p.tables e below (T349.setTop (mkF m 156 #[.val (.int p1), .val (.int (1 : Int32)), .val (.int (0 : Int32)), .val (.int (0 : Int32)), .val (.int (1 : Int32)), .val (.ref b331), .val (.ref w2), .val (.int (1 : Int32)), .val (.int (0 : Int32)), .val (.int (1 : Int32)), .val (.ref w2)] [(.int (1 : Int32))])) t
              refine XS.goto X349.here hx rfl (pc0 := 156) (pc' := 160) rfl (hb hby at_156) (by decide) (by decide) ?_
              exact k)
          have hnr : Value.int (nar .boolean (1 : Int32)) = (.int (1 : Int32)) := by rfl
          obtain ⟨fs, hr, hrun, hended, hW, hsame⟩ := X349.leave (v := some (.int (1 : Int32))) (fun h => by rw [Bd.returns] at h; cases h)
          refine ⟨_, _, pre353 _ (retN X349 hx (t := .boolean) Bd.returns (by simp) (hb hby at_160) (hnr ▸ hr)), hrun, hended, _, _, rfl, ?_, ⟨_, rfl⟩, hW, hsame.mono (by decide) (by decide)⟩
          show QL Z p1 w0 w1 w2 h0 n0 _ T349.heap _
          rw [e349]
          exact ⟨rfl, N339⟩
    · have pre354 : Go p e below s₁ (mkF m 18 #[.val (.int p1), .val (.int (1 : Int32)), .unset, .unset, .unset, .unset, .unset, .unset, .unset, .unset, .unset] []) s₁ (entryFrame m #[(.int p1)] maxLocals) := fun t k => pre237 t (XS.ifNo X0.here hx rfl (hb hby at_15) rfl ((if0 _ _).trans (feq hc15).1) k)
      have pre355 : Go p e below s₁ (mkF m 27 #[.val (.int p1), .val (.int (1 : Int32)), .val (.int (1 : Int32)), .unset, .unset, .unset, .unset, .unset, .unset, .unset, .unset] [(.int (p1 &&& (4 : Int32)))]) s₁ (entryFrame m #[(.int p1)] maxLocals) := fun t k => pre354 t (by
          show Steps p.tables e below (s₁.setTop (mkF m 18 #[.val (.int p1), .val (.int (1 : Int32)), .unset, .unset, .unset, .unset, .unset, .unset, .unset, .unset, .unset] [])) t
          refine XS.iconst X0.here hx rfl (hb hby at_18) ?_
          show Steps p.tables e below (s₁.setTop (mkF m 19 #[.val (.int p1), .val (.int (1 : Int32)), .unset, .unset, .unset, .unset, .unset, .unset, .unset, .unset, .unset] [(.int (1 : Int32))])) t
          refine XS.goto X0.here hx rfl (pc0 := 19) (pc' := 23) rfl (hb hby at_19) (by decide) (by decide) ?_
          show Steps p.tables e below (s₁.setTop (mkF m 23 #[.val (.int p1), .val (.int (1 : Int32)), .unset, .unset, .unset, .unset, .unset, .unset, .unset, .unset, .unset] [(.int (1 : Int32))])) t
          refine XS.istoreN X0.here hx rfl (hb hby at_23) rfl (l' := #[.val (.int p1), .val (.int (1 : Int32)), .val (.int (1 : Int32)), .unset, .unset, .unset, .unset, .unset, .unset, .unset, .unset]) rfl ?_
          show Steps p.tables e below (s₁.setTop (mkF m 24 #[.val (.int p1), .val (.int (1 : Int32)), .val (.int (1 : Int32)), .unset, .unset, .unset, .unset, .unset, .unset, .unset, .unset] [])) t
          refine XS.iloadN X0.here hx rfl (hb hby at_24) rfl ?_
          show Steps p.tables e below (s₁.setTop (mkF m 25 #[.val (.int p1), .val (.int (1 : Int32)), .val (.int (1 : Int32)), .unset, .unset, .unset, .unset, .unset, .unset, .unset, .unset] [(.int p1)])) t
          refine XS.iconst X0.here hx rfl (hb hby at_25) ?_
          show Steps p.tables e below (s₁.setTop (mkF m 26 #[.val (.int p1), .val (.int (1 : Int32)), .val (.int (1 : Int32)), .unset, .unset, .unset, .unset, .unset, .unset, .unset, .unset] [(.int (4 : Int32)), (.int p1)])) t
          refine XS.iand X0.here hx rfl (hb hby at_26) rfl ?_
          exact k)
      by_cases hc27 : (p1 &&& (4 : Int32)) = (0 : Int32)
      · have pre356 : Go p e below s₁ (mkF m 38 #[.val (.int p1), .val (.int (1 : Int32)), .val (.int (1 : Int32)), .unset, .unset, .unset, .unset, .unset, .unset, .unset, .unset] []) s₁ (entryFrame m #[(.int p1)] maxLocals) := fun t k => pre355 t (XS.ifYes X0.here hx rfl (pc0 := 27) (pc' := 38) rfl (hb hby at_27) rfl ((if0 _ _).trans (teq hc27).1) (by decide) (by decide) k)
        have pre357 : Go p e below s₁ (mkF m 44 #[.val (.int p1), .val (.int (1 : Int32)), .val (.int (1 : Int32)), .val (.int (0 : Int32)), .unset, .unset, .unset, .unset, .unset, .unset, .unset] [(.int (p1 &&& (8 : Int32)))]) s₁ (entryFrame m #[(.int p1)] maxLocals) := fun t k => pre356 t (by
            show Steps p.tables e below (s₁.setTop (mkF m 38 #[.val (.int p1), .val (.int (1 : Int32)), .val (.int (1 : Int32)), .unset, .unset, .unset, .unset, .unset, .unset, .unset, .unset] [])) t
            refine XS.iconst X0.here hx rfl (hb hby at_38) ?_
            show Steps p.tables e below (s₁.setTop (mkF m 39 #[.val (.int p1), .val (.int (1 : Int32)), .val (.int (1 : Int32)), .unset, .unset, .unset, .unset, .unset, .unset, .unset, .unset] [(.int (0 : Int32))])) t
            refine XS.istoreN X0.here hx rfl (hb hby at_39) rfl (l' := #[.val (.int p1), .val (.int (1 : Int32)), .val (.int (1 : Int32)), .val (.int (0 : Int32)), .unset, .unset, .unset, .unset, .unset, .unset, .unset]) rfl ?_
            show Steps p.tables e below (s₁.setTop (mkF m 40 #[.val (.int p1), .val (.int (1 : Int32)), .val (.int (1 : Int32)), .val (.int (0 : Int32)), .unset, .unset, .unset, .unset, .unset, .unset, .unset] [])) t
            refine XS.iloadN X0.here hx rfl (hb hby at_40) rfl ?_
            show Steps p.tables e below (s₁.setTop (mkF m 41 #[.val (.int p1), .val (.int (1 : Int32)), .val (.int (1 : Int32)), .val (.int (0 : Int32)), .unset, .unset, .unset, .unset, .unset, .unset, .unset] [(.int p1)])) t
            refine XS.bipush X0.here hx rfl (hb hby at_41) ?_
            show Steps p.tables e below (s₁.setTop (mkF m 43 #[.val (.int p1), .val (.int (1 : Int32)), .val (.int (1 : Int32)), .val (.int (0 : Int32)), .unset, .unset, .unset, .unset, .unset, .unset, .unset] [(.int (8 : Int32)), (.int p1)])) t
            refine XS.iand X0.here hx rfl (hb hby at_43) rfl ?_
            exact k)
        by_cases hc44 : (p1 &&& (8 : Int32)) = (0 : Int32)
        · have pre358 : Go p e below s₁ (mkF m 55 #[.val (.int p1), .val (.int (1 : Int32)), .val (.int (1 : Int32)), .val (.int (0 : Int32)), .unset, .unset, .unset, .unset, .unset, .unset, .unset] []) s₁ (entryFrame m #[(.int p1)] maxLocals) := fun t k => pre357 t (XS.ifYes X0.here hx rfl (pc0 := 44) (pc' := 55) rfl (hb hby at_44) rfl ((if0 _ _).trans (teq hc44).1) (by decide) (by decide) k)
          have pre359 : Go p e below s₁ (mkF m 58 #[.val (.int p1), .val (.int (1 : Int32)), .val (.int (1 : Int32)), .val (.int (0 : Int32)), .val (.int (0 : Int32)), .unset, .unset, .unset, .unset, .unset, .unset] []) s₁ (entryFrame m #[(.int p1)] maxLocals) := fun t k => pre358 t (by
              show Steps p.tables e below (s₁.setTop (mkF m 55 #[.val (.int p1), .val (.int (1 : Int32)), .val (.int (1 : Int32)), .val (.int (0 : Int32)), .unset, .unset, .unset, .unset, .unset, .unset, .unset] [])) t
              refine XS.iconst X0.here hx rfl (hb hby at_55) ?_
              show Steps p.tables e below (s₁.setTop (mkF m 56 #[.val (.int p1), .val (.int (1 : Int32)), .val (.int (1 : Int32)), .val (.int (0 : Int32)), .unset, .unset, .unset, .unset, .unset, .unset, .unset] [(.int (0 : Int32))])) t
              refine XS.istore X0.here hx rfl (hb hby at_56) rfl (l' := #[.val (.int p1), .val (.int (1 : Int32)), .val (.int (1 : Int32)), .val (.int (0 : Int32)), .val (.int (0 : Int32)), .unset, .unset, .unset, .unset, .unset, .unset]) rfl ?_
              exact k)
          obtain ⟨T360, h360, X360, e360, E360, A360, D360, U360, st360⟩ := newO X0 hx hZ hown (hw _ (List.mem_of_getElem? (i := 0) rfl)) (hw _ (List.mem_of_getElem? (i := 1) rfl)) (hw _ (List.mem_of_getElem? (i := 2) rfl)) e0 (g := (mkF m 58 #[.val (.int p1), .val (.int (1 : Int32)), .val (.int (1 : Int32)), .val (.int (0 : Int32)), .val (.int (0 : Int32)), .unset, .unset, .unset, .unset, .unset, .unset] [])) rfl (hb hby at_58) (by decide) (by decide)
          obtain ⟨b360, g360⟩ : ∃ z, z = h0.size := ⟨_, rfl⟩
          rw [← g360] at A360 st360 D360
          have g_b360 : n0 ≤ b360 := Nat.le_trans Z0 (Nat.le_of_eq g360.symm)
          have pre361 : Go p e below T360 (mkF m 61 #[.val (.int p1), .val (.int (1 : Int32)), .val (.int (1 : Int32)), .val (.int (0 : Int32)), .val (.int (0 : Int32)), .unset, .unset, .unset, .unset, .unset, .unset] [(.ref b360)]) s₁ (entryFrame m #[(.int p1)] maxLocals) := fun t k => pre359 t (st360 t k)
          have O362 : Old Z n0 h360 := O0.ext E360
          have Z362 : n0 ≤ h360.size := Nat.le_trans Z0 E360.1
          have F_seesLeft_b360 : Fld Z h360 b360 "com/example/picketline/picketline/protocol/Surroundings" "seesLeft" "Z" (.int (0 : Int32)) := D360 (Or.inr (hw _ (List.mem_of_getElem? (i := 15) rfl))) (ty := .boolean) (by decide)
          have F_seesRight_b360 : Fld Z h360 b360 "com/example/picketline/picketline/protocol/Surroundings" "seesRight" "Z" (.int (0 : Int32)) := D360 (Or.inr (hw _ (List.mem_of_getElem? (i := 17) rfl))) (ty := .boolean) (by decide)
          have F_gapLeft_b360 : Fld Z h360 b360 "com/example/picketline/picketline/protocol/Surroundings" "gapLeft" "Z" (.int (0 : Int32)) := D360 (Or.inr (hw _ (List.mem_of_getElem? (i := 19) rfl))) (ty := .boolean) (by decide)
          have F_gapRight_b360 : Fld Z h360 b360 "com/example/picketline/picketline/protocol/Surroundings" "gapRight" "Z" (.int (0 : Int32)) := D360 (Or.inr (hw _ (List.mem_of_getElem? (i := 21) rfl))) (ty := .boolean) (by decide)
          have pre363 : Go p e below T360 (mkF m 67 #[.val (.int p1), .val (.int (1 : Int32)), .val (.int (1 : Int32)), .val (.int (0 : Int32)), .val (.int (0 : Int32)), .unset, .unset, .unset, .unset, .unset, .unset] [(.int (0 : Int32)), (.int (0 : Int32)), (.int (1 : Int32)), (.int (1 : Int32)), (.ref b360), (.ref b360)]) s₁ (entryFrame m #[(.int p1)] maxLocals) := fun t k => pre361 t (by
              show Steps p.tables e below (T360.setTop (mkF m 61 #[.val (.int p1), .val (.int (1 : Int32)), .val (.int (1 : Int32)), .val (.int (0 : Int32)), .val (.int (0 : Int32)), .unset, .unset, .unset, .unset, .unset, .unset] [(.ref b360)])) t
              refine XS.dup X360.here hx rfl (hb hby at_61) rfl rfl ?_
              show Steps p.tables e below (T360.setTop (mkF m 62 #[.val (.int p1), .val (.int (1 : Int32)), .val (.int (1 : Int32)), .val (.int (0 : Int32)), .val (.int (0 : Int32)), .unset, .unset, .unset, .unset, .unset, .unset] [(.ref b360), (.ref b360)])) t
              refine XS.iloadN X360.here hx rfl (hb hby at_62) rfl ?_
              show Steps p.tables e below (T360.setTop (mkF m 63 #[.val (.int p1), .val (.int (1 : Int32)), .val (.int (1 : Int32)), .val (.int (0 : Int32)), .val (.int (0 : Int32)), .unset, .unset, .unset, .unset, .unset, .unset] [(.int (1 : Int32)), (.ref b360), (.ref b360)])) t
              refine XS.iloadN X360.here hx rfl (hb hby at_63) rfl ?_
              show Steps p.tables e below (T360.setTop (mkF m 64 #[.val (.int p1), .val (.int (1 : Int32)), .val (.int (1 : Int32)), .val (.int (0 : Int32)), .val (.int (0 : Int32)), .unset, .unset, .unset, .unset, .unset, .unset] [(.int (1 : Int32)), (.int (1 : Int32)), (.ref b360), (.ref b360)])) t
              refine XS.iloadN X360.here hx rfl (hb hby at_64) rfl ?_
              show Steps p.tables e below (T360.setTop (mkF m 65 #[.val (.int p1), .val (.int (1 : Int32)), .val (.int (1 : Int32)), .val (.int (0 : Int32)), .val (.int (0 : Int32)), .unset, .unset, .unset, .unset, .unset, .unset] [(.int (0 : Int32)), (.int (1 : Int32)), (.int (1 : Int32)), (.ref b360), (.ref b360)])) t
              refine XS.iload X360.here hx rfl (hb hby at_65) rfl ?_
              exact k)
          obtain ⟨_, _, ⟨T364, L364, k364, n364⟩, -, X364, ⟨Lc364, hQ364, l364, y364, z364⟩, st364⟩ := X360.specialBack hx (y := (⟨"com/example/picketline/picketline/protocol/Surroundings", "<init>", "(ZZZZ)V"⟩ : MethodName)) rfl hown (mvT hZ (hw _ (List.mem_of_getElem? (i := 3) rfl))) (mvT hZ (hw _ (List.mem_of_getElem? (i := 4) rfl))) (mvT hZ (hw _ (List.mem_of_getElem? (i := 5) rfl))) (by decide) (backOf (W := 1) (rmC l Z a0 hw [] b360 (1 : Int32) (1 : Int32) (0 : Int32) (0 : Int32) h360 n0 Z362 A360 g_b360 F_seesLeft_b360 F_seesRight_b360 F_gapLeft_b360 F_gapRight_b360 rfl rfl rfl rfl rfl rfl rfl rfl) hZ (hw _ (List.mem_of_getElem? (i := 5) rfl)) (hw _ (List.mem_of_getElem? (i := 2) rfl)) (by decide) (by decide)) (g := (mkF m 67 #[.val (.int p1), .val (.int (1 : Int32)), .val (.int (1 : Int32)), .val (.int (0 : Int32)), .val (.int (0 : Int32)), .unset, .unset, .unset, .unset, .unset, .unset] [(.int (0 : Int32)), (.int (0 : Int32)), (.int (1 : Int32)), (.int (1 : Int32)), (.ref b360), (.ref b360)])) rfl (by rw [hml]; rfl) (Steps.refl _) (a := b360) (argsL := [(.int (1 : Int32)), (.int (1 : Int32)), (.int (0 : Int32)), (.int (0 : Int32))]) (rest := [(.ref b360)]) (lenOf pdL_0 rfl) rfl (by show 2 * 0 + _ ≤ _; exact Nat.le_of_eq rfl) (hb hby at_67) (fun _ _ => ⟨rfl, e360, (by decide : 1 + 0 ≤ _), (by decide : 4 + 0 ≤ _)⟩)
          dsimp only [Pt.U, Pt.locs, Pt.cells, Pt.slots] at X364 l364 y364 z364 st364 hQ364
          subst l364 y364 z364
          obtain ⟨rfl, N364q, K364, EX364, G0_364, G1_364, G2_364, G3_364⟩ := hQ364
          have N364 := Fr.app N0 N364q
          have pre365 : Go p e below T364 (mkF m 70 #[.val (.int p1), .val (.int (1 : Int32)), .val (.int (1 : Int32)), .val (.int (0 : Int32)), .val (.int (0 : Int32)), .unset, .unset, .unset, .unset, .unset, .unset] [(.ref b360)]) s₁ (entryFrame m #[(.int p1)] maxLocals) := fun t k => pre363 t (st364.trans k)
          have O366 : Old Z n0 T364.heap := O362.keep K364 (allS g_b360 all0)
          have Z366 : n0 ≤ T364.heap.size := Nat.le_trans Z362 K364.1
          have pre367 : Go p e below T364 (mkF m 74 #[.val (.int p1), .val (.int (1 : Int32)), .val (.int (1 : Int32)), .val (.int (0 : Int32)), .val (.int (0 : Int32)), .val (.ref b360), .unset, .unset, .unset, .unset, .unset] [(.ref b360)]) s₁ (entryFrame m #[(.int p1)] maxLocals) := fun t k => pre365 t (by
              show Steps p.tables e below (T364.setTop (mkF m 70 #[.val (.int p1), .val (.int (1 : Int32)), .val (.int (1 : Int32)), .val (.int (0 : Int32)), .val (.int (0 : Int32)), .unset, .unset, .unset, .unset, .unset, .unset] [(.ref b360)])) t
              refine XS.astore X364.here hx rfl (hb hby at_70) rfl rfl (l' := #[.val (.int p1), .val (.int (1 : Int32)), .val (.int (1 : Int32)), .val (.int (0 : Int32)), .val (.int (0 : Int32)), .val (.ref b360), .unset, .unset, .unset, .unset, .unset]) rfl ?_
              show Steps p.tables e below (T364.setTop (mkF m 72 #[.val (.int p1), .val (.int (1 : Int32)), .val (.int (1 : Int32)), .val (.int (0 : Int32)), .val (.int (0 : Int32)), .val (.ref b360), .unset, .unset, .unset, .unset, .unset] [])) t
              refine XS.aload X364.here hx rfl (hb hby at_72) rfl rfl ?_
              exact k)
          obtain ⟨cq368, kq368, q368a, q368b, q368c⟩ := isOf hZ rfl EX364
          obtain ⟨_, _, ⟨T368, L368, k368, n368⟩, -, X368, ⟨Lc368, hQ368, l368, y368, z368⟩, st368⟩ := X364.virtualBack hx (y := (⟨"com/example/picketline/picketline/protocol/Surroundings", "towardGap", "()Lcom/example/picketline/picketline/protocol/Heading;"⟩ : MethodName)) (z := (⟨"com/example/picketline/picketline/protocol/Surroundings", "towardGap", "()Lcom/example/picketline/picketline/protocol/Heading;"⟩ : MethodName)) hown (mvT hZ (hw _ (List.mem_of_getElem? (i := 22) rfl))) (mvT hZ (hw _ (List.mem_of_getElem? (i := 23) rfl))) (notFace_of_selects (args := #[]) (mvT hZ (hw _ (List.mem_of_getElem? (i := 25) rfl)))) (mvT hZ (hw _ (List.mem_of_getElem? (i := 25) rfl))) (mvT hZ (hw _ (List.mem_of_getElem? (i := 24) rfl))) (by decide) (backOf (W := 0) (rmT l Z a0 hw [] b360 (1 : Int32) (1 : Int32) (0 : Int32) (0 : Int32) w0 w1 w2 w0 T364.heap n0 Z366 G0_364 G1_364 G2_364 G3_364 (S0.ext O366.2) (S1.ext O366.2) (S2.ext O366.2) (by simp [towF])) hZ (hw _ (List.mem_of_getElem? (i := 26) rfl)) (hw _ (List.mem_of_getElem? (i := 2) rfl)) (by decide) (by decide)) q368a q368c (g := (mkF m 74 #[.val (.int p1), .val (.int (1 : Int32)), .val (.int (1 : Int32)), .val (.int (0 : Int32)), .val (.int (0 : Int32)), .val (.ref b360), .unset, .unset, .unset, .unset, .unset] [(.ref b360)])) rfl (by rw [hml]; rfl) (Steps.refl _) (argsL := []) (rest := []) (lenOf pdL_1 rfl) rfl (by show 2 * 0 + _ ≤ _; exact Nat.le_of_eq rfl) (hb hby at_74) (fun _ _ => ⟨rfl, rfl, (by decide : 1 + 0 ≤ _), (by decide : 4 + 0 ≤ _)⟩)
          dsimp only [Pt.U, Pt.locs, Pt.cells, Pt.slots] at X368 l368 y368 z368 st368 hQ368
          subst l368 y368 z368
          obtain ⟨rfl, N368q, hq368⟩ := hQ368
          have N368 := Fr.app N364 N368q
          have pre369 : Go p e below T368 (mkF m 77 #[.val (.int p1), .val (.int (1 : Int32)), .val (.int (1 : Int32)), .val (.int (0 : Int32)), .val (.int (0 : Int32)), .val (.ref b360), .unset, .unset, .unset, .unset, .unset] [(.ref w0)]) s₁ (entryFrame m #[(.int p1)] maxLocals) := fun t k => pre367 t (st368.trans k)
          have e368 : T368.heap = T364.heap := hq368
          have pre370 : Go p e below T368 (mkF m 80 #[.val (.int p1), .val (.int (1 : Int32)), .val (.int (1 : Int32)), .val (.int (0 : Int32)), .val (.int (0 : Int32)), .val (.ref b360), .val (.ref w0), .unset, .unset, .unset, .unset] [(.int (1 : Int32))]) s₁ (entryFrame m #[(.int p1)] maxLocals) := fun t k => pre369 t (by
              show Steps p.tables e below (T368.setTop (mkF m 77 #[.val (.int p1), .val (.int (1 : Int32)), .val (.int (1 : Int32)), .val (.int (0 : Int32)), .val (.int (0 : Int32)), .val (.ref b360), .unset, .unset, .unset, .unset, .unset] [(.ref w0)])) t
              refine XS.astore X368.here hx rfl (hb hby at_77) rfl rfl (l' := #[.val (.int p1), .val (.int (1 : Int32)), .val (.int (1 : Int32)), .val (.int (0 : Int32)), .val (.int (0 : Int32)), .val (.ref b360), .val (.ref w0), .unset, .unset, .unset, .unset]) rfl ?_
              show Steps p.tables e below (T368.setTop (mkF m 79 #[.val (.int p1), .val (.int (1 : Int32)), .val (.int (1 : Int32)), .val (.int (0 : Int32)), .val (.int (0 : Int32)), .val (.ref b360), .val (.ref w0), .unset, .unset, .unset, .unset] [])) t
              refine XS.iloadN X368.here hx rfl (hb hby at_79) rfl ?_
              exact k)
          have pre371 : Go p e below T368 (mkF m 83 #[.val (.int p1), .val (.int (1 : Int32)), .val (.int (1 : Int32)), .val (.int (0 : Int32)), .val (.int (0 : Int32)), .val (.ref b360), .val (.ref w0), .unset, .unset, .unset, .unset] []) s₁ (entryFrame m #[(.int p1)] maxLocals) := fun t k => pre370 t (XS.ifNo X368.here hx rfl (hb hby at_80) rfl ((if0 _ _).trans (feq (by decide : ¬ ((1 : Int32) = (0 : Int32)))).1) k)
          have pre372 : Go p e below T368 (mkF m 85 #[.val (.int p1), .val (.int (1 : Int32)), .val (.int (1 : Int32)), .val (.int (0 : Int32)), .val (.int (0 : Int32)), .val (.ref b360), .val (.ref w0), .unset, .unset, .unset, .unset] [(.int (0 : Int32))]) s₁ (entryFrame m #[(.int p1)] maxLocals) := fun t k => pre371 t (by
              show Steps p.tables e below (T368.setTop (mkF m 83 #[.val (.int p1), .val (.int (1 : Int32)), .val (.int (1 : Int32)), .val (.int (0 : Int32)), .val (.int (0 : Int32)), .val (.ref b360), .val (.ref w0), .unset, .unset, .unset, .unset] [])) t
              refine XS.iload X368.here hx rfl (hb hby at_83) rfl ?_
              exact k)
          have pre373 : Go p e below T368 (mkF m 92 #[.val (.int p1), .val (.int (1 : Int32)), .val (.int (1 : Int32)), .val (.int (0 : Int32)), .val (.int (0 : Int32)), .val (.ref b360), .val (.ref w0), .unset, .unset, .unset, .unset] []) s₁ (entryFrame m #[(.int p1)] maxLocals) := fun t k => pre372 t (XS.ifYes X368.here hx rfl (pc0 := 85) (pc' := 92) rfl (hb hby at_85) rfl ((if0 _ _).trans (teq (by decide : (0 : Int32) = (0 : Int32))).1) (by decide) (by decide) k)
          have pre374 : Go p e below T368 (mkF m 96 #[.val (.int p1), .val (.int (1 : Int32)), .val (.int (1 : Int32)), .val (.int (0 : Int32)), .val (.int (0 : Int32)), .val (.ref b360), .val (.ref w0), .val (.int (0 : Int32)), .unset, .unset, .unset] [(.int (1 : Int32))]) s₁ (entryFrame m #[(.int p1)] maxLocals) := fun t k => pre373 t (by
              show Steps p.tables e below (T368.setTop (mkF m 92 #[.val (.int p1), .val (.int (1 : Int32)), .val (.int (1 : Int32)), .val (.int (0 : Int32)), .val (.int (0 : Int32)), .val (.ref b360), .val (.ref w0), .unset, .unset, .unset, .unset] [])) t
              refine XS.iconst X368.here hx rfl (hb hby at_92) ?_
              show Steps p.tables e below (T368.setTop (mkF m 93 #[.val (.int p1), .val (.int (1 : Int32)), .val (.int (1 : Int32)), .val (.int (0 : Int32)), .val (.int (0 : Int32)), .val (.ref b360), .val (.ref w0), .unset, .unset, .unset, .unset] [(.int (0 : Int32))])) t
              refine XS.istore X368.here hx rfl (hb hby at_93) rfl (l' := #[.val (.int p1), .val (.int (1 : Int32)), .val (.int (1 : Int32)), .val (.int (0 : Int32)), .val (.int (0 : Int32)), .val (.ref b360), .val (.ref w0), .val (.int (0 : Int32)), .unset, .unset, .unset]) rfl ?_
              show Steps p.tables e below (T368.setTop (mkF m 95 #[.val (.int p1), .val (.int (1 : Int32)), .val (.int (1 : Int32)), .val (.int (0 : Int32)), .val (.int (0 : Int32)), .val (.ref b360), .val (.ref w0), .val (.int (0 : Int32)), .unset, .unset, .unset] [])) t
              refine XS.iloadN X368.here hx rfl (hb hby at_95) rfl ?_
              exact k)
          have pre375 : Go p e below T368 (mkF m 99 #[.val (.int p1), .val (.int (1 : Int32)), .val (.int (1 : Int32)), .val (.int (0 : Int32)), .val (.int (0 : Int32)), .val (.ref b360), .val (.ref w0), .val (.int (0 : Int32)), .unset, .unset, .unset] []) s₁ (entryFrame m #[(.int p1)] maxLocals) := fun t k => pre374 t (XS.ifNo X368.here hx rfl (hb hby at_96) rfl ((if0 _ _).trans (feq (by decide : ¬ ((1 : Int32) = (0 : Int32)))).1) k)
          have pre376 : Go p e below T368 (mkF m 100 #[.val (.int p1), .val (.int (1 : Int32)), .val (.int (1 : Int32)), .val (.int (0 : Int32)), .val (.int (0 : Int32)), .val (.ref b360), .val (.ref w0), .val (.int (0 : Int32)), .unset, .unset, .unset] [(.int (0 : Int32))]) s₁ (entryFrame m #[(.int p1)] maxLocals) := fun t k => pre375 t (by
              show Steps p.tables e below (T368.setTop (mkF m 99 #[.val (.int p1), .val (.int (1 : Int32)), .val (.int (1 : Int32)), .val (.int (0 : Int32)), .val (.int (0 : Int32)), .val (.ref b360), .val (.ref w0), .val (.int (0 : Int32)), .unset, .unset, .unset] [])) t
              refine XS.iloadN X368.here hx rfl (hb hby at_99) rfl ?_
              exact k)
          have pre377 : Go p e below T368 (mkF m 107 #[.val (.int p1), .val (.int (1 : Int32)), .val (.int (1 : Int32)), .val (.int (0 : Int32)), .val (.int (0 : Int32)), .val (.ref b360), .val (.ref w0), .val (.int (0 : Int32)), .unset, .unset, .unset] []) s₁ (entryFrame m #[(.int p1)] maxLocals) := fun t k => pre376 t (XS.ifYes X368.here hx rfl (pc0 := 100) (pc' := 107) rfl (hb hby at_100) rfl ((if0 _ _).trans (teq (by decide : (0 : Int32) = (0 : Int32))).1) (by decide) (by decide) k)
          have pre378 : Go p e below T368 (mkF m 119 #[.val (.int p1), .val (.int (1 : Int32)), .val (.int (1 : Int32)), .val (.int (0 : Int32)), .val (.int (0 : Int32)), .val (.ref b360), .val (.ref w0), .val (.int (0 : Int32)), .val (.int (0 : Int32)), .val (.int (0 : Int32)), .unset] [(.int (0 : Int32))]) s₁ (entryFrame m #[(.int p1)] maxLocals) := fun t k => pre377 t (by
              show Steps p.tables e below (T368.setTop (mkF m 107 #[.val (.int p1), .val (.int (1 : Int32)), .val (.int (1 : Int32)), .val (.int (0 : Int32)), .val (.int (0 : Int32)), .val (.ref b360), .val (.ref w0), .val (.int (0 : Int32)), .unset, .unset, .unset] [])) t
              refine XS.iconst X368.here hx rfl (hb hby at_107) ?_
              show Steps p.tables e below (T368.setTop (mkF m 108 #[.val (.int p1), .val (.int (1 : Int32)), .val (.int (1 : Int32)), .val (.int (0 : Int32)), .val (.int (0 : Int32)), .val (.ref b360), .val (.ref w0), .val (.int (0 : Int32)), .unset, .unset, .unset] [(.int (0 : Int32))])) t
              refine XS.istore X368.here hx rfl (hb hby at_108) rfl (l' := #[.val (.int p1), .val (.int (1 : Int32)), .val (.int (1 : Int32)), .val (.int (0 : Int32)), .val (.int (0 : Int32)), .val (.ref b360), .val (.ref w0), .val (.int (0 : Int32)), .val (.int (0 : Int32)), .unset, .unset]) rfl ?_
              show Steps p.tables e below (T368.setTop (mkF m 110 #[.val (.int p1), .val (.int (1 : Int32)), .val (.int (1 : Int32)), .val (.int (0 : Int32)), .val (.int (0 : Int32)), .val (.ref b360), .val (.ref w0), .val (.int (0 : Int32)), .val (.int (0 : Int32)), .unset, .unset] [])) t
              refine XS.iload X368.here hx rfl (hb hby at_110) rfl ?_
              show Steps p.tables e below (T368.setTop (mkF m 112 #[.val (.int p1), .val (.int (1 : Int32)), .val (.int (1 : Int32)), .val (.int (0 : Int32)), .val (.int (0 : Int32)), .val (.ref b360), .val (.ref w0), .val (.int (0 : Int32)), .val (.int (0 : Int32)), .unset, .unset] [(.int (0 : Int32))])) t
              refine XS.iload X368.here hx rfl (hb hby at_112) rfl ?_
              show Steps p.tables e below (T368.setTop (mkF m 114 #[.val (.int p1), .val (.int (1 : Int32)), .val (.int (1 : Int32)), .val (.int (0 : Int32)), .val (.int (0 : Int32)), .val (.ref b360), .val (.ref w0), .val (.int (0 : Int32)), .val (.int (0 : Int32)), .unset, .unset] [(.int (0 : Int32)), (.int (0 : Int32))])) t
              refine XS.isub X368.here hx rfl (hb hby at_114) rfl ?_
              show Steps p.tables e below (T368.setTop (mkF m 115 #[.val (.int p1), .val (.int (1 : Int32)), .val (.int (1 : Int32)), .val (.int (0 : Int32)), .val (.int (0 : Int32)), .val (.ref b360), .val (.ref w0), .val (.int (0 : Int32)), .val (.int (0 : Int32)), .unset, .unset] [(.int (0 : Int32))])) t
              refine XS.istore X368.here hx rfl (hb hby at_115) rfl (l' := #[.val (.int p1), .val (.int (1 : Int32)), .val (.int (1 : Int32)), .val (.int (0 : Int32)), .val (.int (0 : Int32)), .val (.ref b360), .val (.ref w0), .val (.int (0 : Int32)), .val (.int (0 : Int32)), .val (.int (0 : Int32)), .unset]) rfl ?_
              show Steps p.tables e below (T368.setTop (mkF m 117 #[.val (.int p1), .val (.int (1 : Int32)), .val (.int (1 : Int32)), .val (.int (0 : Int32)), .val (.int (0 : Int32)), .val (.ref b360), .val (.ref w0), .val (.int (0 : Int32)), .val (.int (0 : Int32)), .val (.int (0 : Int32)), .unset] [])) t
              refine XS.iload X368.here hx rfl (hb hby at_117) rfl ?_
              exact k)
          have pre379 : Go p e below T368 (mkF m 130 #[.val (.int p1), .val (.int (1 : Int32)), .val (.int (1 : Int32)), .val (.int (0 : Int32)), .val (.int (0 : Int32)), .val (.ref b360), .val (.ref w0), .val (.int (0 : Int32)), .val (.int (0 : Int32)), .val (.int (0 : Int32)), .unset] []) s₁ (entryFrame m #[(.int p1)] maxLocals) := fun t k => pre378 t (XS.ifYes X368.here hx rfl (pc0 := 119) (pc' := 130) rfl (hb hby at_119) rfl ((if0 _ _).trans (flt (by decide : ¬ ((0 : Int32) < (0 : Int32)))).2.2.2) (by decide) (by decide) k)
          have pre380 : Go p e below T368 (mkF m 132 #[.val (.int p1), .val (.int (1 : Int32)), .val (.int (1 : Int32)), .val (.int (0 : Int32)), .val (.int (0 : Int32)), .val (.ref b360), .val (.ref w0), .val (.int (0 : Int32)), .val (.int (0 : Int32)), .val (.int (0 : Int32)), .unset] [(.int (0 : Int32))]) s₁ (entryFrame m #[(.int p1)] maxLocals) := fun t k => pre379 t (by
              show Steps p.tables e below (T368.setTop (mkF m 130 #[.val (.int p1), .val (.int (1 : Int32)), .val (.int (1 : Int32)), .val (.int (0 : Int32)), .val (.int (0 : Int32)), .val (.ref b360), .val (.ref w0), .val (.int (0 : Int32)), .val (.int (0 : Int32)), .val (.int (0 : Int32)), .unset] [])) t
              refine XS.iload X368.here hx rfl (hb hby at_130) rfl ?_
              exact k)
          have pre381 : Go p e below T368 (mkF m 143 #[.val (.int p1), .val (.int (1 : Int32)), .val (.int (1 : Int32)), .val (.int (0 : Int32)), .val (.int (0 : Int32)), .val (.ref b360), .val (.ref w0), .val (.int (0 : Int32)), .val (.int (0 : Int32)), .val (.int (0 : Int32)), .unset] []) s₁ (entryFrame m #[(.int p1)] maxLocals) := fun t k => pre380 t (XS.ifYes X368.here hx rfl (pc0 := 132) (pc' := 143) rfl (hb hby at_132) rfl ((if0 _ _).trans (flt (by decide : ¬ ((0 : Int32) < (0 : Int32)))).2.1) (by decide) (by decide) k)
          obtain ⟨T382, X382, e382, st382⟩ := getS2 X368 hx hZ hown (host := "") (Or.inl (hw _ (List.mem_of_getElem? (i := 30) rfl))) Via.refl e368 (S0.ext O366.2) (g := (mkF m 143 #[.val (.int p1), .val (.int (1 : Int32)), .val (.int (1 : Int32)), .val (.int (0 : Int32)), .val (.int (0 : Int32)), .val (.ref b360), .val (.ref w0), .val (.int (0 : Int32)), .val (.int (0 : Int32)), .val (.int (0 : Int32)), .unset] [])) rfl (hb hby at_143)
          have pre383 : Go p e below T382 (mkF m 146 #[.val (.int p1), .val (.int (1 : Int32)), .val (.int (1 : Int32)), .val (.int (0 : Int32)), .val (.int (0 : Int32)), .val (.ref b360), .val (.ref w0), .val (.int (0 : Int32)), .val (.int (0 : Int32)), .val (.int (0 : Int32)), .unset] [(.ref w0)]) s₁ (entryFrame m #[(.int p1)] maxLocals) := fun t k => pre381 t (st382 t k)
          have pre384 : Go p e below T382 (mkF m 152 #[.val (.int p1), .val (.int (1 : Int32)), .val (.int (1 : Int32)), .val (.int (0 : Int32)), .val (.int (0 : Int32)), .val (.ref b360), .val (.ref w0), .val (.int (0 : Int32)), .val (.int (0 : Int32)), .val (.int (0 : Int32)), .val (.ref w0)] [(.ref w0), (.ref w0)]) s₁ (entryFrame m #[(.int p1)] maxLocals) := fun t k => pre383 t (by
              show Steps p.tables e below (T382.setTop (mkF m 146 #[.val (.int p1), .val (.int (1 : Int32)), .val (.int (1 : Int32)), .val (.int (0 : Int32)), .val (.int (0 : Int32)), .val (.ref b360), .val (.ref w0), .val (.int (0 : Int32)), .val (.int (0 : Int32)), .val (.int (0 : Int32)), .unset] [(.ref w0)])) t
              refine XS.astore X382.here hx rfl (hb hby at_146) rfl rfl (l' := #[.val (.int p1), .val (.int (1 : Int32)), .val (.int (1 : Int32)), .val (.int (0 : Int32)), .val (.int (0 : Int32)), .val (.ref b360), .val (.ref w0), .val (.int (0 : Int32)), .val (.int (0 : Int32)), .val (.int (0 : Int32)), .val (.ref w0)]) rfl ?_
              show Steps p.tables e below (T382.setTop (mkF m 148 #[.val (.int p1), .val (.int (1 : Int32)), .val (.int (1 : Int32)), .val (.int (0 : Int32)), .val (.int (0 : Int32)), .val (.ref b360), .val (.ref w0), .val (.int (0 : Int32)), .val (.int (0 : Int32)), .val (.int (0 : Int32)), .val (.ref w0)] [])) t
              refine XS.aload X382.here hx rfl (hb hby at_148) rfl rfl ?_
              show Steps p.tables e below (T382.setTop (mkF m 150 #[.val (.int p1), .val (.int (1 : Int32)), .val (.int (1 : Int32)), .val (.int (0 : Int32)), .val (.int (0 : Int32)), .val (.ref b360), .val (.ref w0), .val (.int (0 : Int32)), .val (.int (0 : Int32)), .val (.int (0 : Int32)), .val (.ref w0)] [(.ref w0)])) t
              refine XS.aload X382.here hx rfl (hb hby at_150) rfl rfl ?_
              exact k)
          have pre385 : Go p e below T382 (mkF m 155 #[.val (.int p1), .val (.int (1 : Int32)), .val (.int (1 : Int32)), .val (.int (0 : Int32)), .val (.int (0 : Int32)), .val (.ref b360), .val (.ref w0), .val (.int (0 : Int32)), .val (.int (0 : Int32)), .val (.int (0 : Int32)), .val (.ref w0)] []) s₁ (entryFrame m #[(.int p1)] maxLocals) := fun t k => pre384 t (Jvm.RoadKit.acmp (g := (mkF m 152 #[.val (.int p1), .val (.int (1 : Int32)), .val (.int (1 : Int32)), .val (.int (0 : Int32)), .val (.int (0 : Int32)), .val (.ref b360), .val (.ref w0), .val (.int (0 : Int32)), .val (.int (0 : Int32)), .val (.int (0 : Int32)), .val (.ref w0)] [(.ref w0), (.ref w0)])) X382 hx rfl rfl rfl (pc0 := 152) (pc' := 155) (same := true) rfl (hb hby at_152) rfl (decide_eq_true rfl) (by decide) (by decide) k)
          have pre386 : Go p e below T382 (mkF m 160 #[.val (.int p1), .val (.int (1 : Int32)), .val (.int (1 : Int32)), .val (.int (0 : Int32)), .val (.int (0 : Int32)), .val (.ref b360), .val (.ref w0), .val (.int (0 : Int32)), .val (.int (0 : Int32)), .val (.int (0 : Int32)), .val (.ref w0)] [(.int (1 : Int32))]) s₁ (entryFrame m #[(.int p1)] maxLocals) := fun t k => pre385 t (by
              show Steps p.tables e below (T382.setTop (mkF m 155 #[.val (.int p1), .val (.int (1 : Int32)), .val (.int (1 : Int32)), .val (.int (0 : Int32)), .val (.int (0 : Int32)), .val (.ref b360), .val (.ref w0), .val (.int (0 : Int32)), .val (.int (0 : Int32)), .val (.int (0 : Int32)), .val (.ref w0)] [])) t
              refine XS.iconst X382.here hx rfl (hb hby at_155) ?_
              show Steps p.tables e below (T382.setTop (mkF m 156 #[.val (.int p1), .val (.int (1 : Int32)), .val (.int (1 : Int32)), .val (.int (0 : Int32)), .val (.int (0 : Int32)), .val (.ref b360), .val (.ref w0), .val (.int (0 : Int32)), .val (.int (0 : Int32)), .val (.int (0 : Int32)), .val (.ref w0)] [(.int (1 : Int32))])) t
              refine XS.goto X382.here hx rfl (pc0 := 156) (pc' := 160) rfl (hb hby at_156) (by decide) (by decide) ?_
              exact k)
          have hnr : Value.int (nar .boolean (1 : Int32)) = (.int (1 : Int32)) := by rfl
          obtain ⟨fs, hr, hrun, hended, hW, hsame⟩ := X382.leave (v := some (.int (1 : Int32))) (fun h => by rw [Bd.returns] at h; cases h)
          refine ⟨_, _, pre386 _ (retN X382 hx (t := .boolean) Bd.returns (by simp) (hb hby at_160) (hnr ▸ hr)), hrun, hended, _, _, rfl, ?_, ⟨_, rfl⟩, hW, hsame.mono (by decide) (by decide)⟩
          show QL Z p1 w0 w1 w2 h0 n0 _ T382.heap _
          rw [e382]
          exact ⟨rfl, N368⟩
        · have pre387 : Go p e below s₁ (mkF m 47 #[.val (.int p1), .val (.int (1 : Int32)), .val (.int (1 : Int32)), .val (.int (0 : Int32)), .unset, .unset, .unset, .unset, .unset, .unset, .unset] []) s₁ (entryFrame m #[(.int p1)] maxLocals) := fun t k => pre357 t (XS.ifNo X0.here hx rfl (hb hby at_44) rfl ((if0 _ _).trans (feq hc44).1) k)
          have pre388 : Go p e below s₁ (mkF m 48 #[.val (.int p1), .val (.int (1 : Int32)), .val (.int (1 : Int32)), .val (.int (0 : Int32)), .unset, .unset, .unset, .unset, .unset, .unset, .unset] [(.int (1 : Int32))]) s₁ (entryFrame m #[(.int p1)] maxLocals) := fun t k => pre387 t (by
              show Steps p.tables e below (s₁.setTop (mkF m 47 #[.val (.int p1), .val (.int (1 : Int32)), .val (.int (1 : Int32)), .val (.int (0 : Int32)), .unset, .unset, .unset, .unset, .unset, .unset, .unset] [])) t
              refine XS.iloadN X0.here hx rfl (hb hby at_47) rfl ?_
              exact k)
          have pre389 : Go p e below s₁ (mkF m 55 #[.val (.int p1), .val (.int (1 : Int32)), .val (.int (1 : Int32)), .val (.int (0 : Int32)), .unset, .unset, .unset, .unset, .unset, .unset, .unset] []) s₁ (entryFrame m #[(.int p1)] maxLocals) := fun t k => pre388 t (XS.ifYes X0.here hx rfl (pc0 := 48) (pc' := 55) rfl (hb hby at_48) rfl ((if0 _ _).trans (feq (by decide : ¬ ((1 : Int32) = (0 : Int32)))).2) (by decide) (by decide) k)
          have pre390 : Go p e below s₁ (mkF m 58 #[.val (.int p1), .val (.int (1 : Int32)), .val (.int (1 : Int32)), .val (.int (0 : Int32)), .val (.int (0 : Int32)), .unset, .unset, .unset, .unset, .unset, .unset] []) s₁ (entryFrame m #[(.int p1)] maxLocals) := fun t k => pre389 t (by
              show Steps p.tables e below (s₁.setTop (mkF m 55 #[.val (.int p1), .val (.int (1 : Int32)), .val (.int (1 : Int32)), .val (.int (0 : Int32)), .unset, .unset, .unset, .unset, .unset, .unset, .unset] [])) t
              refine XS.iconst X0.here hx rfl (hb hby at_55) ?_
              show Steps p.tables e below (s₁.setTop (mkF m 56 #[.val (.int p1), .val (.int (1 : Int32)), .val (.int (1 : Int32)), .val (.int (0 : Int32)), .unset, .unset, .unset, .unset, .unset, .unset, .unset] [(.int (0 : Int32))])) t
              refine XS.istore X0.here hx rfl (hb hby at_56) rfl (l' := #[.val (.int p1), .val (.int (1 : Int32)), .val (.int (1 : Int32)), .val (.int (0 : Int32)), .val (.int (0 : Int32)), .unset, .unset, .unset, .unset, .unset, .unset]) rfl ?_
              exact k)
          obtain ⟨T391, h391, X391, e391, E391, A391, D391, U391, st391⟩ := newO X0 hx hZ hown (hw _ (List.mem_of_getElem? (i := 0) rfl)) (hw _ (List.mem_of_getElem? (i := 1) rfl)) (hw _ (List.mem_of_getElem? (i := 2) rfl)) e0 (g := (mkF m 58 #[.val (.int p1), .val (.int (1 : Int32)), .val (.int (1 : Int32)), .val (.int (0 : Int32)), .val (.int (0 : Int32)), .unset, .unset, .unset, .unset, .unset, .unset] [])) rfl (hb hby at_58) (by decide) (by decide)
          obtain ⟨b391, g391⟩ : ∃ z, z = h0.size := ⟨_, rfl⟩
          rw [← g391] at A391 st391 D391
          have g_b391 : n0 ≤ b391 := Nat.le_trans Z0 (Nat.le_of_eq g391.symm)
          have pre392 : Go p e below T391 (mkF m 61 #[.val (.int p1), .val (.int (1 : Int32)), .val (.int (1 : Int32)), .val (.int (0 : Int32)), .val (.int (0 : Int32)), .unset, .unset, .unset, .unset, .unset, .unset] [(.ref b391)]) s₁ (entryFrame m #[(.int p1)] maxLocals) := fun t k => pre390 t (st391 t k)
          have O393 : Old Z n0 h391 := O0.ext E391
          have Z393 : n0 ≤ h391.size := Nat.le_trans Z0 E391.1
          have F_seesLeft_b391 : Fld Z h391 b391 "com/example/picketline/picketline/protocol/Surroundings" "seesLeft" "Z" (.int (0 : Int32)) := D391 (Or.inr (hw _ (List.mem_of_getElem? (i := 15) rfl))) (ty := .boolean) (by decide)
          have F_seesRight_b391 : Fld Z h391 b391 "com/example/picketline/picketline/protocol/Surroundings" "seesRight" "Z" (.int (0 : Int32)) := D391 (Or.inr (hw _ (List.mem_of_getElem? (i := 17) rfl))) (ty := .boolean) (by decide)
          have F_gapLeft_b391 : Fld Z h391 b391 "com/example/picketline/picketline/protocol/Surroundings" "gapLeft" "Z" (.int (0 : Int32)) := D391 (Or.inr (hw _ (List.mem_of_getElem? (i := 19) rfl))) (ty := .boolean) (by decide)
          have F_gapRight_b391 : Fld Z h391 b391 "com/example/picketline/picketline/protocol/Surroundings" "gapRight" "Z" (.int (0 : Int32)) := D391 (Or.inr (hw _ (List.mem_of_getElem? (i := 21) rfl))) (ty := .boolean) (by decide)
          have pre394 : Go p e below T391 (mkF m 67 #[.val (.int p1), .val (.int (1 : Int32)), .val (.int (1 : Int32)), .val (.int (0 : Int32)), .val (.int (0 : Int32)), .unset, .unset, .unset, .unset, .unset, .unset] [(.int (0 : Int32)), (.int (0 : Int32)), (.int (1 : Int32)), (.int (1 : Int32)), (.ref b391), (.ref b391)]) s₁ (entryFrame m #[(.int p1)] maxLocals) := fun t k => pre392 t (by
              show Steps p.tables e below (T391.setTop (mkF m 61 #[.val (.int p1), .val (.int (1 : Int32)), .val (.int (1 : Int32)), .val (.int (0 : Int32)), .val (.int (0 : Int32)), .unset, .unset, .unset, .unset, .unset, .unset] [(.ref b391)])) t
              refine XS.dup X391.here hx rfl (hb hby at_61) rfl rfl ?_
              show Steps p.tables e below (T391.setTop (mkF m 62 #[.val (.int p1), .val (.int (1 : Int32)), .val (.int (1 : Int32)), .val (.int (0 : Int32)), .val (.int (0 : Int32)), .unset, .unset, .unset, .unset, .unset, .unset] [(.ref b391), (.ref b391)])) t
              refine XS.iloadN X391.here hx rfl (hb hby at_62) rfl ?_
              show Steps p.tables e below (T391.setTop (mkF m 63 #[.val (.int p1), .val (.int (1 : Int32)), .val (.int (1 : Int32)), .val (.int (0 : Int32)), .val (.int (0 : Int32)), .unset, .unset, .unset, .unset, .unset, .unset] [(.int (1 : Int32)), (.ref b391), (.ref b391)])) t
              refine XS.iloadN X391.here hx rfl (hb hby at_63) rfl ?_
              show Steps p.tables e below (T391.setTop (mkF m 64 #[.val (.int p1), .val (.int (1 : Int32)), .val (.int (1 : Int32)), .val (.int (0 : Int32)), .val (.int (0 : Int32)), .unset, .unset, .unset, .unset, .unset, .unset] [(.int (1 : Int32)), (.int (1 : Int32)), (.ref b391), (.ref b391)])) t
              refine XS.iloadN X391.here hx rfl (hb hby at_64) rfl ?_
              show Steps p.tables e below (T391.setTop (mkF m 65 #[.val (.int p1), .val (.int (1 : Int32)), .val (.int (1 : Int32)), .val (.int (0 : Int32)), .val (.int (0 : Int32)), .unset, .unset, .unset, .unset, .unset, .unset] [(.int (0 : Int32)), (.int (1 : Int32)), (.int (1 : Int32)), (.ref b391), (.ref b391)])) t
              refine XS.iload X391.here hx rfl (hb hby at_65) rfl ?_
              exact k)
          obtain ⟨_, _, ⟨T395, L395, k395, n395⟩, -, X395, ⟨Lc395, hQ395, l395, y395, z395⟩, st395⟩ := X391.specialBack hx (y := (⟨"com/example/picketline/picketline/protocol/Surroundings", "<init>", "(ZZZZ)V"⟩ : MethodName)) rfl hown (mvT hZ (hw _ (List.mem_of_getElem? (i := 3) rfl))) (mvT hZ (hw _ (List.mem_of_getElem? (i := 4) rfl))) (mvT hZ (hw _ (List.mem_of_getElem? (i := 5) rfl))) (by decide) (backOf (W := 1) (rmC l Z a0 hw [] b391 (1 : Int32) (1 : Int32) (0 : Int32) (0 : Int32) h391 n0 Z393 A391 g_b391 F_seesLeft_b391 F_seesRight_b391 F_gapLeft_b391 F_gapRight_b391 rfl rfl rfl rfl rfl rfl rfl rfl) hZ (hw _ (List.mem_of_getElem? (i := 5) rfl)) (hw _ (List.mem_of_getElem? (i := 2) rfl)) (by decide) (by decide)) (g := (mkF m 67 #[.val (.int p1), .val (.int (1 : Int32)), .val (.int (1 : Int32)), .val (.int (0 : Int32)), .val (.int (0 : Int32)), .unset, .unset, .unset, .unset, .unset, .unset] [(.int (0 : Int32)), (.int (0 : Int32)), (.int (1 : Int32)), (.int (1 : Int32)), (.ref b391), (.ref b391)])) rfl (by rw [hml]; rfl) (Steps.refl _) (a := b391) (argsL := [(.int (1 : Int32)), (.int (1 : Int32)), (.int (0 : Int32)), (.int (0 : Int32))]) (rest := [(.ref b391)]) (lenOf pdL_0 rfl) rfl (by show 2 * 0 + _ ≤ _; exact Nat.le_of_eq rfl) (hb hby at_67) (fun _ _ => ⟨rfl, e391, (by decide : 1 + 0 ≤ _), (by decide : 4 + 0 ≤ _)⟩)
          dsimp only [Pt.U, Pt.locs, Pt.cells, Pt.slots] at X395 l395 y395 z395 st395 hQ395
          subst l395 y395 z395
          obtain ⟨rfl, N395q, K395, EX395, G0_395, G1_395, G2_395, G3_395⟩ := hQ395
          have N395 := Fr.app N0 N395q
          have pre396 : Go p e below T395 (mkF m 70 #[.val (.int p1), .val (.int (1 : Int32)), .val (.int (1 : Int32)), .val (.int (0 : Int32)), .val (.int (0 : Int32)), .unset, .unset, .unset, .unset, .unset, .unset] [(.ref b391)]) s₁ (entryFrame m #[(.int p1)] maxLocals) := fun t k => pre394 t (st395.trans k)
          have O397 : Old Z n0 T395.heap := O393.keep K395 (allS g_b391 all0)
          have Z397 : n0 ≤ T395.heap.size := Nat.le_trans Z393 K395.1
          have pre398 : Go p e below T395 (mkF m 74 #[.val (.int p1), .val (.int (1 : Int32)), .val (.int (1 : Int32)), .val (.int (0 : Int32)), .val (.int (0 : Int32)), .val (.ref b391), .unset, .unset, .unset, .unset, .unset] [(.ref b391)]) s₁ (entryFrame m #[(.int p1)] maxLocals) := fun t k => pre396 t (by
              show Steps p.tables e below (T395.setTop (mkF m 70 #[.val (.int p1), .val (.int (1 : Int32)), .val (.int (1 : Int32)), .val (.int (0 : Int32)), .val (.int (0 : Int32)), .unset, .unset, .unset, .unset, .unset, .unset] [(.ref b391)])) t
              refine XS.astore X395.here hx rfl (hb hby at_70) rfl rfl (l' := #[.val (.int p1), .val (.int (1 : Int32)), .val (.int (1 : Int32)), .val (.int (0 : Int32)), .val (.int (0 : Int32)), .val (.ref b391), .unset, .unset, .unset, .unset, .unset]) rfl ?_
              show Steps p.tables e below (T395.setTop (mkF m 72 #[.val (.int p1), .val (.int (1 : Int32)), .val (.int (1 : Int32)), .val (.int (0 : Int32)), .val (.int (0 : Int32)), .val (.ref b391), .unset, .unset, .unset, .unset, .unset] [])) t
              refine XS.aload X395.here hx rfl (hb hby at_72) rfl rfl ?_
              exact k)
          obtain ⟨cq399, kq399, q399a, q399b, q399c⟩ := isOf hZ rfl EX395
          obtain ⟨_, _, ⟨T399, L399, k399, n399⟩, -, X399, ⟨Lc399, hQ399, l399, y399, z399⟩, st399⟩ := X395.virtualBack hx (y := (⟨"com/example/picketline/picketline/protocol/Surroundings", "towardGap", "()Lcom/example/picketline/picketline/protocol/Heading;"⟩ : MethodName)) (z := (⟨"com/example/picketline/picketline/protocol/Surroundings", "towardGap", "()Lcom/example/picketline/picketline/protocol/Heading;"⟩ : MethodName)) hown (mvT hZ (hw _ (List.mem_of_getElem? (i := 22) rfl))) (mvT hZ (hw _ (List.mem_of_getElem? (i := 23) rfl))) (notFace_of_selects (args := #[]) (mvT hZ (hw _ (List.mem_of_getElem? (i := 25) rfl)))) (mvT hZ (hw _ (List.mem_of_getElem? (i := 25) rfl))) (mvT hZ (hw _ (List.mem_of_getElem? (i := 24) rfl))) (by decide) (backOf (W := 0) (rmT l Z a0 hw [] b391 (1 : Int32) (1 : Int32) (0 : Int32) (0 : Int32) w0 w1 w2 w0 T395.heap n0 Z397 G0_395 G1_395 G2_395 G3_395 (S0.ext O397.2) (S1.ext O397.2) (S2.ext O397.2) (by simp [towF])) hZ (hw _ (List.mem_of_getElem? (i := 26) rfl)) (hw _ (List.mem_of_getElem? (i := 2) rfl)) (by decide) (by decide)) q399a q399c (g := (mkF m 74 #[.val (.int p1), .val (.int (1 : Int32)), .val (.int (1 : Int32)), .val (.int (0 : Int32)), .val (.int (0 : Int32)), .val (.ref b391), .unset, .unset, .unset, .unset, .unset] [(.ref b391)])) rfl (by rw [hml]; rfl) (Steps.refl _) (argsL := []) (rest := []) (lenOf pdL_1 rfl) rfl (by show 2 * 0 + _ ≤ _; exact Nat.le_of_eq rfl) (hb hby at_74) (fun _ _ => ⟨rfl, rfl, (by decide : 1 + 0 ≤ _), (by decide : 4 + 0 ≤ _)⟩)
          dsimp only [Pt.U, Pt.locs, Pt.cells, Pt.slots] at X399 l399 y399 z399 st399 hQ399
          subst l399 y399 z399
          obtain ⟨rfl, N399q, hq399⟩ := hQ399
          have N399 := Fr.app N395 N399q
          have pre400 : Go p e below T399 (mkF m 77 #[.val (.int p1), .val (.int (1 : Int32)), .val (.int (1 : Int32)), .val (.int (0 : Int32)), .val (.int (0 : Int32)), .val (.ref b391), .unset, .unset, .unset, .unset, .unset] [(.ref w0)]) s₁ (entryFrame m #[(.int p1)] maxLocals) := fun t k => pre398 t (st399.trans k)
          have e399 : T399.heap = T395.heap := hq399
          have pre401 : Go p e below T399 (mkF m 80 #[.val (.int p1), .val (.int (1 : Int32)), .val (.int (1 : Int32)), .val (.int (0 : Int32)), .val (.int (0 : Int32)), .val (.ref b391), .val (.ref w0), .unset, .unset, .unset, .unset] [(.int (1 : Int32))]) s₁ (entryFrame m #[(.int p1)] maxLocals) := fun t k => pre400 t (by
              show Steps p.tables e below (T399.setTop (mkF m 77 #[.val (.int p1), .val (.int (1 : Int32)), .val (.int (1 : Int32)), .val (.int (0 : Int32)), .val (.int (0 : Int32)), .val (.ref b391), .unset, .unset, .unset, .unset, .unset] [(.ref w0)])) t
              refine XS.astore X399.here hx rfl (hb hby at_77) rfl rfl (l' := #[.val (.int p1), .val (.int (1 : Int32)), .val (.int (1 : Int32)), .val (.int (0 : Int32)), .val (.int (0 : Int32)), .val (.ref b391), .val (.ref w0), .unset, .unset, .unset, .unset]) rfl ?_
              show Steps p.tables e below (T399.setTop (mkF m 79 #[.val (.int p1), .val (.int (1 : Int32)), .val (.int (1 : Int32)), .val (.int (0 : Int32)), .val (.int (0 : Int32)), .val (.ref b391), .val (.ref w0), .unset, .unset, .unset, .unset] [])) t
              refine XS.iloadN X399.here hx rfl (hb hby at_79) rfl ?_
              exact k)
          have pre402 : Go p e below T399 (mkF m 83 #[.val (.int p1), .val (.int (1 : Int32)), .val (.int (1 : Int32)), .val (.int (0 : Int32)), .val (.int (0 : Int32)), .val (.ref b391), .val (.ref w0), .unset, .unset, .unset, .unset] []) s₁ (entryFrame m #[(.int p1)] maxLocals) := fun t k => pre401 t (XS.ifNo X399.here hx rfl (hb hby at_80) rfl ((if0 _ _).trans (feq (by decide : ¬ ((1 : Int32) = (0 : Int32)))).1) k)
          have pre403 : Go p e below T399 (mkF m 85 #[.val (.int p1), .val (.int (1 : Int32)), .val (.int (1 : Int32)), .val (.int (0 : Int32)), .val (.int (0 : Int32)), .val (.ref b391), .val (.ref w0), .unset, .unset, .unset, .unset] [(.int (0 : Int32))]) s₁ (entryFrame m #[(.int p1)] maxLocals) := fun t k => pre402 t (by
              show Steps p.tables e below (T399.setTop (mkF m 83 #[.val (.int p1), .val (.int (1 : Int32)), .val (.int (1 : Int32)), .val (.int (0 : Int32)), .val (.int (0 : Int32)), .val (.ref b391), .val (.ref w0), .unset, .unset, .unset, .unset] [])) t
              refine XS.iload X399.here hx rfl (hb hby at_83) rfl ?_
              exact k)
          have pre404 : Go p e below T399 (mkF m 92 #[.val (.int p1), .val (.int (1 : Int32)), .val (.int (1 : Int32)), .val (.int (0 : Int32)), .val (.int (0 : Int32)), .val (.ref b391), .val (.ref w0), .unset, .unset, .unset, .unset] []) s₁ (entryFrame m #[(.int p1)] maxLocals) := fun t k => pre403 t (XS.ifYes X399.here hx rfl (pc0 := 85) (pc' := 92) rfl (hb hby at_85) rfl ((if0 _ _).trans (teq (by decide : (0 : Int32) = (0 : Int32))).1) (by decide) (by decide) k)
          have pre405 : Go p e below T399 (mkF m 96 #[.val (.int p1), .val (.int (1 : Int32)), .val (.int (1 : Int32)), .val (.int (0 : Int32)), .val (.int (0 : Int32)), .val (.ref b391), .val (.ref w0), .val (.int (0 : Int32)), .unset, .unset, .unset] [(.int (1 : Int32))]) s₁ (entryFrame m #[(.int p1)] maxLocals) := fun t k => pre404 t (by
              show Steps p.tables e below (T399.setTop (mkF m 92 #[.val (.int p1), .val (.int (1 : Int32)), .val (.int (1 : Int32)), .val (.int (0 : Int32)), .val (.int (0 : Int32)), .val (.ref b391), .val (.ref w0), .unset, .unset, .unset, .unset] [])) t
              refine XS.iconst X399.here hx rfl (hb hby at_92) ?_
              show Steps p.tables e below (T399.setTop (mkF m 93 #[.val (.int p1), .val (.int (1 : Int32)), .val (.int (1 : Int32)), .val (.int (0 : Int32)), .val (.int (0 : Int32)), .val (.ref b391), .val (.ref w0), .unset, .unset, .unset, .unset] [(.int (0 : Int32))])) t
              refine XS.istore X399.here hx rfl (hb hby at_93) rfl (l' := #[.val (.int p1), .val (.int (1 : Int32)), .val (.int (1 : Int32)), .val (.int (0 : Int32)), .val (.int (0 : Int32)), .val (.ref b391), .val (.ref w0), .val (.int (0 : Int32)), .unset, .unset, .unset]) rfl ?_
              show Steps p.tables e below (T399.setTop (mkF m 95 #[.val (.int p1), .val (.int (1 : Int32)), .val (.int (1 : Int32)), .val (.int (0 : Int32)), .val (.int (0 : Int32)), .val (.ref b391), .val (.ref w0), .val (.int (0 : Int32)), .unset, .unset, .unset] [])) t
              refine XS.iloadN X399.here hx rfl (hb hby at_95) rfl ?_
              exact k)
          have pre406 : Go p e below T399 (mkF m 99 #[.val (.int p1), .val (.int (1 : Int32)), .val (.int (1 : Int32)), .val (.int (0 : Int32)), .val (.int (0 : Int32)), .val (.ref b391), .val (.ref w0), .val (.int (0 : Int32)), .unset, .unset, .unset] []) s₁ (entryFrame m #[(.int p1)] maxLocals) := fun t k => pre405 t (XS.ifNo X399.here hx rfl (hb hby at_96) rfl ((if0 _ _).trans (feq (by decide : ¬ ((1 : Int32) = (0 : Int32)))).1) k)
          have pre407 : Go p e below T399 (mkF m 100 #[.val (.int p1), .val (.int (1 : Int32)), .val (.int (1 : Int32)), .val (.int (0 : Int32)), .val (.int (0 : Int32)), .val (.ref b391), .val (.ref w0), .val (.int (0 : Int32)), .unset, .unset, .unset] [(.int (0 : Int32))]) s₁ (entryFrame m #[(.int p1)] maxLocals) := fun t k => pre406 t (by
              show Steps p.tables e below (T399.setTop (mkF m 99 #[.val (.int p1), .val (.int (1 : Int32)), .val (.int (1 : Int32)), .val (.int (0 : Int32)), .val (.int (0 : Int32)), .val (.ref b391), .val (.ref w0), .val (.int (0 : Int32)), .unset, .unset, .unset] [])) t
              refine XS.iloadN X399.here hx rfl (hb hby at_99) rfl ?_
              exact k)
          have pre408 : Go p e below T399 (mkF m 107 #[.val (.int p1), .val (.int (1 : Int32)), .val (.int (1 : Int32)), .val (.int (0 : Int32)), .val (.int (0 : Int32)), .val (.ref b391), .val (.ref w0), .val (.int (0 : Int32)), .unset, .unset, .unset] []) s₁ (entryFrame m #[(.int p1)] maxLocals) := fun t k => pre407 t (XS.ifYes X399.here hx rfl (pc0 := 100) (pc' := 107) rfl (hb hby at_100) rfl ((if0 _ _).trans (teq (by decide : (0 : Int32) = (0 : Int32))).1) (by decide) (by decide) k)
          have pre409 : Go p e below T399 (mkF m 119 #[.val (.int p1), .val (.int (1 : Int32)), .val (.int (1 : Int32)), .val (.int (0 : Int32)), .val (.int (0 : Int32)), .val (.ref b391), .val (.ref w0), .val (.int (0 : Int32)), .val (.int (0 : Int32)), .val (.int (0 : Int32)), .unset] [(.int (0 : Int32))]) s₁ (entryFrame m #[(.int p1)] maxLocals) := fun t k => pre408 t (by
              show Steps p.tables e below (T399.setTop (mkF m 107 #[.val (.int p1), .val (.int (1 : Int32)), .val (.int (1 : Int32)), .val (.int (0 : Int32)), .val (.int (0 : Int32)), .val (.ref b391), .val (.ref w0), .val (.int (0 : Int32)), .unset, .unset, .unset] [])) t
              refine XS.iconst X399.here hx rfl (hb hby at_107) ?_
              show Steps p.tables e below (T399.setTop (mkF m 108 #[.val (.int p1), .val (.int (1 : Int32)), .val (.int (1 : Int32)), .val (.int (0 : Int32)), .val (.int (0 : Int32)), .val (.ref b391), .val (.ref w0), .val (.int (0 : Int32)), .unset, .unset, .unset] [(.int (0 : Int32))])) t
              refine XS.istore X399.here hx rfl (hb hby at_108) rfl (l' := #[.val (.int p1), .val (.int (1 : Int32)), .val (.int (1 : Int32)), .val (.int (0 : Int32)), .val (.int (0 : Int32)), .val (.ref b391), .val (.ref w0), .val (.int (0 : Int32)), .val (.int (0 : Int32)), .unset, .unset]) rfl ?_
              show Steps p.tables e below (T399.setTop (mkF m 110 #[.val (.int p1), .val (.int (1 : Int32)), .val (.int (1 : Int32)), .val (.int (0 : Int32)), .val (.int (0 : Int32)), .val (.ref b391), .val (.ref w0), .val (.int (0 : Int32)), .val (.int (0 : Int32)), .unset, .unset] [])) t
              refine XS.iload X399.here hx rfl (hb hby at_110) rfl ?_
              show Steps p.tables e below (T399.setTop (mkF m 112 #[.val (.int p1), .val (.int (1 : Int32)), .val (.int (1 : Int32)), .val (.int (0 : Int32)), .val (.int (0 : Int32)), .val (.ref b391), .val (.ref w0), .val (.int (0 : Int32)), .val (.int (0 : Int32)), .unset, .unset] [(.int (0 : Int32))])) t
              refine XS.iload X399.here hx rfl (hb hby at_112) rfl ?_
              show Steps p.tables e below (T399.setTop (mkF m 114 #[.val (.int p1), .val (.int (1 : Int32)), .val (.int (1 : Int32)), .val (.int (0 : Int32)), .val (.int (0 : Int32)), .val (.ref b391), .val (.ref w0), .val (.int (0 : Int32)), .val (.int (0 : Int32)), .unset, .unset] [(.int (0 : Int32)), (.int (0 : Int32))])) t
              refine XS.isub X399.here hx rfl (hb hby at_114) rfl ?_
              show Steps p.tables e below (T399.setTop (mkF m 115 #[.val (.int p1), .val (.int (1 : Int32)), .val (.int (1 : Int32)), .val (.int (0 : Int32)), .val (.int (0 : Int32)), .val (.ref b391), .val (.ref w0), .val (.int (0 : Int32)), .val (.int (0 : Int32)), .unset, .unset] [(.int (0 : Int32))])) t
              refine XS.istore X399.here hx rfl (hb hby at_115) rfl (l' := #[.val (.int p1), .val (.int (1 : Int32)), .val (.int (1 : Int32)), .val (.int (0 : Int32)), .val (.int (0 : Int32)), .val (.ref b391), .val (.ref w0), .val (.int (0 : Int32)), .val (.int (0 : Int32)), .val (.int (0 : Int32)), .unset]) rfl ?_
              show Steps p.tables e below (T399.setTop (mkF m 117 #[.val (.int p1), .val (.int (1 : Int32)), .val (.int (1 : Int32)), .val (.int (0 : Int32)), .val (.int (0 : Int32)), .val (.ref b391), .val (.ref w0), .val (.int (0 : Int32)), .val (.int (0 : Int32)), .val (.int (0 : Int32)), .unset] [])) t
              refine XS.iload X399.here hx rfl (hb hby at_117) rfl ?_
              exact k)
          have pre410 : Go p e below T399 (mkF m 130 #[.val (.int p1), .val (.int (1 : Int32)), .val (.int (1 : Int32)), .val (.int (0 : Int32)), .val (.int (0 : Int32)), .val (.ref b391), .val (.ref w0), .val (.int (0 : Int32)), .val (.int (0 : Int32)), .val (.int (0 : Int32)), .unset] []) s₁ (entryFrame m #[(.int p1)] maxLocals) := fun t k => pre409 t (XS.ifYes X399.here hx rfl (pc0 := 119) (pc' := 130) rfl (hb hby at_119) rfl ((if0 _ _).trans (flt (by decide : ¬ ((0 : Int32) < (0 : Int32)))).2.2.2) (by decide) (by decide) k)
          have pre411 : Go p e below T399 (mkF m 132 #[.val (.int p1), .val (.int (1 : Int32)), .val (.int (1 : Int32)), .val (.int (0 : Int32)), .val (.int (0 : Int32)), .val (.ref b391), .val (.ref w0), .val (.int (0 : Int32)), .val (.int (0 : Int32)), .val (.int (0 : Int32)), .unset] [(.int (0 : Int32))]) s₁ (entryFrame m #[(.int p1)] maxLocals) := fun t k => pre410 t (by
              show Steps p.tables e below (T399.setTop (mkF m 130 #[.val (.int p1), .val (.int (1 : Int32)), .val (.int (1 : Int32)), .val (.int (0 : Int32)), .val (.int (0 : Int32)), .val (.ref b391), .val (.ref w0), .val (.int (0 : Int32)), .val (.int (0 : Int32)), .val (.int (0 : Int32)), .unset] [])) t
              refine XS.iload X399.here hx rfl (hb hby at_130) rfl ?_
              exact k)
          have pre412 : Go p e below T399 (mkF m 143 #[.val (.int p1), .val (.int (1 : Int32)), .val (.int (1 : Int32)), .val (.int (0 : Int32)), .val (.int (0 : Int32)), .val (.ref b391), .val (.ref w0), .val (.int (0 : Int32)), .val (.int (0 : Int32)), .val (.int (0 : Int32)), .unset] []) s₁ (entryFrame m #[(.int p1)] maxLocals) := fun t k => pre411 t (XS.ifYes X399.here hx rfl (pc0 := 132) (pc' := 143) rfl (hb hby at_132) rfl ((if0 _ _).trans (flt (by decide : ¬ ((0 : Int32) < (0 : Int32)))).2.1) (by decide) (by decide) k)
          obtain ⟨T413, X413, e413, st413⟩ := getS2 X399 hx hZ hown (host := "") (Or.inl (hw _ (List.mem_of_getElem? (i := 30) rfl))) Via.refl e399 (S0.ext O397.2) (g := (mkF m 143 #[.val (.int p1), .val (.int (1 : Int32)), .val (.int (1 : Int32)), .val (.int (0 : Int32)), .val (.int (0 : Int32)), .val (.ref b391), .val (.ref w0), .val (.int (0 : Int32)), .val (.int (0 : Int32)), .val (.int (0 : Int32)), .unset] [])) rfl (hb hby at_143)
          have pre414 : Go p e below T413 (mkF m 146 #[.val (.int p1), .val (.int (1 : Int32)), .val (.int (1 : Int32)), .val (.int (0 : Int32)), .val (.int (0 : Int32)), .val (.ref b391), .val (.ref w0), .val (.int (0 : Int32)), .val (.int (0 : Int32)), .val (.int (0 : Int32)), .unset] [(.ref w0)]) s₁ (entryFrame m #[(.int p1)] maxLocals) := fun t k => pre412 t (st413 t k)
          have pre415 : Go p e below T413 (mkF m 152 #[.val (.int p1), .val (.int (1 : Int32)), .val (.int (1 : Int32)), .val (.int (0 : Int32)), .val (.int (0 : Int32)), .val (.ref b391), .val (.ref w0), .val (.int (0 : Int32)), .val (.int (0 : Int32)), .val (.int (0 : Int32)), .val (.ref w0)] [(.ref w0), (.ref w0)]) s₁ (entryFrame m #[(.int p1)] maxLocals) := fun t k => pre414 t (by
              show Steps p.tables e below (T413.setTop (mkF m 146 #[.val (.int p1), .val (.int (1 : Int32)), .val (.int (1 : Int32)), .val (.int (0 : Int32)), .val (.int (0 : Int32)), .val (.ref b391), .val (.ref w0), .val (.int (0 : Int32)), .val (.int (0 : Int32)), .val (.int (0 : Int32)), .unset] [(.ref w0)])) t
              refine XS.astore X413.here hx rfl (hb hby at_146) rfl rfl (l' := #[.val (.int p1), .val (.int (1 : Int32)), .val (.int (1 : Int32)), .val (.int (0 : Int32)), .val (.int (0 : Int32)), .val (.ref b391), .val (.ref w0), .val (.int (0 : Int32)), .val (.int (0 : Int32)), .val (.int (0 : Int32)), .val (.ref w0)]) rfl ?_
              show Steps p.tables e below (T413.setTop (mkF m 148 #[.val (.int p1), .val (.int (1 : Int32)), .val (.int (1 : Int32)), .val (.int (0 : Int32)), .val (.int (0 : Int32)), .val (.ref b391), .val (.ref w0), .val (.int (0 : Int32)), .val (.int (0 : Int32)), .val (.int (0 : Int32)), .val (.ref w0)] [])) t
              refine XS.aload X413.here hx rfl (hb hby at_148) rfl rfl ?_
              show Steps p.tables e below (T413.setTop (mkF m 150 #[.val (.int p1), .val (.int (1 : Int32)), .val (.int (1 : Int32)), .val (.int (0 : Int32)), .val (.int (0 : Int32)), .val (.ref b391), .val (.ref w0), .val (.int (0 : Int32)), .val (.int (0 : Int32)), .val (.int (0 : Int32)), .val (.ref w0)] [(.ref w0)])) t
              refine XS.aload X413.here hx rfl (hb hby at_150) rfl rfl ?_
              exact k)
          have pre416 : Go p e below T413 (mkF m 155 #[.val (.int p1), .val (.int (1 : Int32)), .val (.int (1 : Int32)), .val (.int (0 : Int32)), .val (.int (0 : Int32)), .val (.ref b391), .val (.ref w0), .val (.int (0 : Int32)), .val (.int (0 : Int32)), .val (.int (0 : Int32)), .val (.ref w0)] []) s₁ (entryFrame m #[(.int p1)] maxLocals) := fun t k => pre415 t (Jvm.RoadKit.acmp (g := (mkF m 152 #[.val (.int p1), .val (.int (1 : Int32)), .val (.int (1 : Int32)), .val (.int (0 : Int32)), .val (.int (0 : Int32)), .val (.ref b391), .val (.ref w0), .val (.int (0 : Int32)), .val (.int (0 : Int32)), .val (.int (0 : Int32)), .val (.ref w0)] [(.ref w0), (.ref w0)])) X413 hx rfl rfl rfl (pc0 := 152) (pc' := 155) (same := true) rfl (hb hby at_152) rfl (decide_eq_true rfl) (by decide) (by decide) k)
          have pre417 : Go p e below T413 (mkF m 160 #[.val (.int p1), .val (.int (1 : Int32)), .val (.int (1 : Int32)), .val (.int (0 : Int32)), .val (.int (0 : Int32)), .val (.ref b391), .val (.ref w0), .val (.int (0 : Int32)), .val (.int (0 : Int32)), .val (.int (0 : Int32)), .val (.ref w0)] [(.int (1 : Int32))]) s₁ (entryFrame m #[(.int p1)] maxLocals) := fun t k => pre416 t (by
              show Steps p.tables e below (T413.setTop (mkF m 155 #[.val (.int p1), .val (.int (1 : Int32)), .val (.int (1 : Int32)), .val (.int (0 : Int32)), .val (.int (0 : Int32)), .val (.ref b391), .val (.ref w0), .val (.int (0 : Int32)), .val (.int (0 : Int32)), .val (.int (0 : Int32)), .val (.ref w0)] [])) t
              refine XS.iconst X413.here hx rfl (hb hby at_155) ?_
              show Steps p.tables e below (T413.setTop (mkF m 156 #[.val (.int p1), .val (.int (1 : Int32)), .val (.int (1 : Int32)), .val (.int (0 : Int32)), .val (.int (0 : Int32)), .val (.ref b391), .val (.ref w0), .val (.int (0 : Int32)), .val (.int (0 : Int32)), .val (.int (0 : Int32)), .val (.ref w0)] [(.int (1 : Int32))])) t
              refine XS.goto X413.here hx rfl (pc0 := 156) (pc' := 160) rfl (hb hby at_156) (by decide) (by decide) ?_
              exact k)
          have hnr : Value.int (nar .boolean (1 : Int32)) = (.int (1 : Int32)) := by rfl
          obtain ⟨fs, hr, hrun, hended, hW, hsame⟩ := X413.leave (v := some (.int (1 : Int32))) (fun h => by rw [Bd.returns] at h; cases h)
          refine ⟨_, _, pre417 _ (retN X413 hx (t := .boolean) Bd.returns (by simp) (hb hby at_160) (hnr ▸ hr)), hrun, hended, _, _, rfl, ?_, ⟨_, rfl⟩, hW, hsame.mono (by decide) (by decide)⟩
          show QL Z p1 w0 w1 w2 h0 n0 _ T413.heap _
          rw [e413]
          exact ⟨rfl, N399⟩
      · have pre418 : Go p e below s₁ (mkF m 30 #[.val (.int p1), .val (.int (1 : Int32)), .val (.int (1 : Int32)), .unset, .unset, .unset, .unset, .unset, .unset, .unset, .unset] []) s₁ (entryFrame m #[(.int p1)] maxLocals) := fun t k => pre355 t (XS.ifNo X0.here hx rfl (hb hby at_27) rfl ((if0 _ _).trans (feq hc27).1) k)
        have pre419 : Go p e below s₁ (mkF m 31 #[.val (.int p1), .val (.int (1 : Int32)), .val (.int (1 : Int32)), .unset, .unset, .unset, .unset, .unset, .unset, .unset, .unset] [(.int (1 : Int32))]) s₁ (entryFrame m #[(.int p1)] maxLocals) := fun t k => pre418 t (by
            show Steps p.tables e below (s₁.setTop (mkF m 30 #[.val (.int p1), .val (.int (1 : Int32)), .val (.int (1 : Int32)), .unset, .unset, .unset, .unset, .unset, .unset, .unset, .unset] [])) t
            refine XS.iloadN X0.here hx rfl (hb hby at_30) rfl ?_
            exact k)
        have pre420 : Go p e below s₁ (mkF m 38 #[.val (.int p1), .val (.int (1 : Int32)), .val (.int (1 : Int32)), .unset, .unset, .unset, .unset, .unset, .unset, .unset, .unset] []) s₁ (entryFrame m #[(.int p1)] maxLocals) := fun t k => pre419 t (XS.ifYes X0.here hx rfl (pc0 := 31) (pc' := 38) rfl (hb hby at_31) rfl ((if0 _ _).trans (feq (by decide : ¬ ((1 : Int32) = (0 : Int32)))).2) (by decide) (by decide) k)
        have pre421 : Go p e below s₁ (mkF m 44 #[.val (.int p1), .val (.int (1 : Int32)), .val (.int (1 : Int32)), .val (.int (0 : Int32)), .unset, .unset, .unset, .unset, .unset, .unset, .unset] [(.int (p1 &&& (8 : Int32)))]) s₁ (entryFrame m #[(.int p1)] maxLocals) := fun t k => pre420 t (by
            show Steps p.tables e below (s₁.setTop (mkF m 38 #[.val (.int p1), .val (.int (1 : Int32)), .val (.int (1 : Int32)), .unset, .unset, .unset, .unset, .unset, .unset, .unset, .unset] [])) t
            refine XS.iconst X0.here hx rfl (hb hby at_38) ?_
            show Steps p.tables e below (s₁.setTop (mkF m 39 #[.val (.int p1), .val (.int (1 : Int32)), .val (.int (1 : Int32)), .unset, .unset, .unset, .unset, .unset, .unset, .unset, .unset] [(.int (0 : Int32))])) t
            refine XS.istoreN X0.here hx rfl (hb hby at_39) rfl (l' := #[.val (.int p1), .val (.int (1 : Int32)), .val (.int (1 : Int32)), .val (.int (0 : Int32)), .unset, .unset, .unset, .unset, .unset, .unset, .unset]) rfl ?_
            show Steps p.tables e below (s₁.setTop (mkF m 40 #[.val (.int p1), .val (.int (1 : Int32)), .val (.int (1 : Int32)), .val (.int (0 : Int32)), .unset, .unset, .unset, .unset, .unset, .unset, .unset] [])) t
            refine XS.iloadN X0.here hx rfl (hb hby at_40) rfl ?_
            show Steps p.tables e below (s₁.setTop (mkF m 41 #[.val (.int p1), .val (.int (1 : Int32)), .val (.int (1 : Int32)), .val (.int (0 : Int32)), .unset, .unset, .unset, .unset, .unset, .unset, .unset] [(.int p1)])) t
            refine XS.bipush X0.here hx rfl (hb hby at_41) ?_
            show Steps p.tables e below (s₁.setTop (mkF m 43 #[.val (.int p1), .val (.int (1 : Int32)), .val (.int (1 : Int32)), .val (.int (0 : Int32)), .unset, .unset, .unset, .unset, .unset, .unset, .unset] [(.int (8 : Int32)), (.int p1)])) t
            refine XS.iand X0.here hx rfl (hb hby at_43) rfl ?_
            exact k)
        by_cases hc44 : (p1 &&& (8 : Int32)) = (0 : Int32)
        · have pre422 : Go p e below s₁ (mkF m 55 #[.val (.int p1), .val (.int (1 : Int32)), .val (.int (1 : Int32)), .val (.int (0 : Int32)), .unset, .unset, .unset, .unset, .unset, .unset, .unset] []) s₁ (entryFrame m #[(.int p1)] maxLocals) := fun t k => pre421 t (XS.ifYes X0.here hx rfl (pc0 := 44) (pc' := 55) rfl (hb hby at_44) rfl ((if0 _ _).trans (teq hc44).1) (by decide) (by decide) k)
          have pre423 : Go p e below s₁ (mkF m 58 #[.val (.int p1), .val (.int (1 : Int32)), .val (.int (1 : Int32)), .val (.int (0 : Int32)), .val (.int (0 : Int32)), .unset, .unset, .unset, .unset, .unset, .unset] []) s₁ (entryFrame m #[(.int p1)] maxLocals) := fun t k => pre422 t (by
              show Steps p.tables e below (s₁.setTop (mkF m 55 #[.val (.int p1), .val (.int (1 : Int32)), .val (.int (1 : Int32)), .val (.int (0 : Int32)), .unset, .unset, .unset, .unset, .unset, .unset, .unset] [])) t
              refine XS.iconst X0.here hx rfl (hb hby at_55) ?_
              show Steps p.tables e below (s₁.setTop (mkF m 56 #[.val (.int p1), .val (.int (1 : Int32)), .val (.int (1 : Int32)), .val (.int (0 : Int32)), .unset, .unset, .unset, .unset, .unset, .unset, .unset] [(.int (0 : Int32))])) t
              refine XS.istore X0.here hx rfl (hb hby at_56) rfl (l' := #[.val (.int p1), .val (.int (1 : Int32)), .val (.int (1 : Int32)), .val (.int (0 : Int32)), .val (.int (0 : Int32)), .unset, .unset, .unset, .unset, .unset, .unset]) rfl ?_
              exact k)
          obtain ⟨T424, h424, X424, e424, E424, A424, D424, U424, st424⟩ := newO X0 hx hZ hown (hw _ (List.mem_of_getElem? (i := 0) rfl)) (hw _ (List.mem_of_getElem? (i := 1) rfl)) (hw _ (List.mem_of_getElem? (i := 2) rfl)) e0 (g := (mkF m 58 #[.val (.int p1), .val (.int (1 : Int32)), .val (.int (1 : Int32)), .val (.int (0 : Int32)), .val (.int (0 : Int32)), .unset, .unset, .unset, .unset, .unset, .unset] [])) rfl (hb hby at_58) (by decide) (by decide)
          obtain ⟨b424, g424⟩ : ∃ z, z = h0.size := ⟨_, rfl⟩
          rw [← g424] at A424 st424 D424
          have g_b424 : n0 ≤ b424 := Nat.le_trans Z0 (Nat.le_of_eq g424.symm)
          have pre425 : Go p e below T424 (mkF m 61 #[.val (.int p1), .val (.int (1 : Int32)), .val (.int (1 : Int32)), .val (.int (0 : Int32)), .val (.int (0 : Int32)), .unset, .unset, .unset, .unset, .unset, .unset] [(.ref b424)]) s₁ (entryFrame m #[(.int p1)] maxLocals) := fun t k => pre423 t (st424 t k)
          have O426 : Old Z n0 h424 := O0.ext E424
          have Z426 : n0 ≤ h424.size := Nat.le_trans Z0 E424.1
          have F_seesLeft_b424 : Fld Z h424 b424 "com/example/picketline/picketline/protocol/Surroundings" "seesLeft" "Z" (.int (0 : Int32)) := D424 (Or.inr (hw _ (List.mem_of_getElem? (i := 15) rfl))) (ty := .boolean) (by decide)
          have F_seesRight_b424 : Fld Z h424 b424 "com/example/picketline/picketline/protocol/Surroundings" "seesRight" "Z" (.int (0 : Int32)) := D424 (Or.inr (hw _ (List.mem_of_getElem? (i := 17) rfl))) (ty := .boolean) (by decide)
          have F_gapLeft_b424 : Fld Z h424 b424 "com/example/picketline/picketline/protocol/Surroundings" "gapLeft" "Z" (.int (0 : Int32)) := D424 (Or.inr (hw _ (List.mem_of_getElem? (i := 19) rfl))) (ty := .boolean) (by decide)
          have F_gapRight_b424 : Fld Z h424 b424 "com/example/picketline/picketline/protocol/Surroundings" "gapRight" "Z" (.int (0 : Int32)) := D424 (Or.inr (hw _ (List.mem_of_getElem? (i := 21) rfl))) (ty := .boolean) (by decide)
          have pre427 : Go p e below T424 (mkF m 67 #[.val (.int p1), .val (.int (1 : Int32)), .val (.int (1 : Int32)), .val (.int (0 : Int32)), .val (.int (0 : Int32)), .unset, .unset, .unset, .unset, .unset, .unset] [(.int (0 : Int32)), (.int (0 : Int32)), (.int (1 : Int32)), (.int (1 : Int32)), (.ref b424), (.ref b424)]) s₁ (entryFrame m #[(.int p1)] maxLocals) := fun t k => pre425 t (by
              show Steps p.tables e below (T424.setTop (mkF m 61 #[.val (.int p1), .val (.int (1 : Int32)), .val (.int (1 : Int32)), .val (.int (0 : Int32)), .val (.int (0 : Int32)), .unset, .unset, .unset, .unset, .unset, .unset] [(.ref b424)])) t
              refine XS.dup X424.here hx rfl (hb hby at_61) rfl rfl ?_
              show Steps p.tables e below (T424.setTop (mkF m 62 #[.val (.int p1), .val (.int (1 : Int32)), .val (.int (1 : Int32)), .val (.int (0 : Int32)), .val (.int (0 : Int32)), .unset, .unset, .unset, .unset, .unset, .unset] [(.ref b424), (.ref b424)])) t
              refine XS.iloadN X424.here hx rfl (hb hby at_62) rfl ?_
              show Steps p.tables e below (T424.setTop (mkF m 63 #[.val (.int p1), .val (.int (1 : Int32)), .val (.int (1 : Int32)), .val (.int (0 : Int32)), .val (.int (0 : Int32)), .unset, .unset, .unset, .unset, .unset, .unset] [(.int (1 : Int32)), (.ref b424), (.ref b424)])) t
              refine XS.iloadN X424.here hx rfl (hb hby at_63) rfl ?_
              show Steps p.tables e below (T424.setTop (mkF m 64 #[.val (.int p1), .val (.int (1 : Int32)), .val (.int (1 : Int32)), .val (.int (0 : Int32)), .val (.int (0 : Int32)), .unset, .unset, .unset, .unset, .unset, .unset] [(.int (1 : Int32)), (.int (1 : Int32)), (.ref b424), (.ref b424)])) t
              refine XS.iloadN X424.here hx rfl (hb hby at_64) rfl ?_
              show Steps p.tables e below (T424.setTop (mkF m 65 #[.val (.int p1), .val (.int (1 : Int32)), .val (.int (1 : Int32)), .val (.int (0 : Int32)), .val (.int (0 : Int32)), .unset, .unset, .unset, .unset, .unset, .unset] [(.int (0 : Int32)), (.int (1 : Int32)), (.int (1 : Int32)), (.ref b424), (.ref b424)])) t
              refine XS.iload X424.here hx rfl (hb hby at_65) rfl ?_
              exact k)
          obtain ⟨_, _, ⟨T428, L428, k428, n428⟩, -, X428, ⟨Lc428, hQ428, l428, y428, z428⟩, st428⟩ := X424.specialBack hx (y := (⟨"com/example/picketline/picketline/protocol/Surroundings", "<init>", "(ZZZZ)V"⟩ : MethodName)) rfl hown (mvT hZ (hw _ (List.mem_of_getElem? (i := 3) rfl))) (mvT hZ (hw _ (List.mem_of_getElem? (i := 4) rfl))) (mvT hZ (hw _ (List.mem_of_getElem? (i := 5) rfl))) (by decide) (backOf (W := 1) (rmC l Z a0 hw [] b424 (1 : Int32) (1 : Int32) (0 : Int32) (0 : Int32) h424 n0 Z426 A424 g_b424 F_seesLeft_b424 F_seesRight_b424 F_gapLeft_b424 F_gapRight_b424 rfl rfl rfl rfl rfl rfl rfl rfl) hZ (hw _ (List.mem_of_getElem? (i := 5) rfl)) (hw _ (List.mem_of_getElem? (i := 2) rfl)) (by decide) (by decide)) (g := (mkF m 67 #[.val (.int p1), .val (.int (1 : Int32)), .val (.int (1 : Int32)), .val (.int (0 : Int32)), .val (.int (0 : Int32)), .unset, .unset, .unset, .unset, .unset, .unset] [(.int (0 : Int32)), (.int (0 : Int32)), (.int (1 : Int32)), (.int (1 : Int32)), (.ref b424), (.ref b424)])) rfl (by rw [hml]; rfl) (Steps.refl _) (a := b424) (argsL := [(.int (1 : Int32)), (.int (1 : Int32)), (.int (0 : Int32)), (.int (0 : Int32))]) (rest := [(.ref b424)]) (lenOf pdL_0 rfl) rfl (by show 2 * 0 + _ ≤ _; exact Nat.le_of_eq rfl) (hb hby at_67) (fun _ _ => ⟨rfl, e424, (by decide : 1 + 0 ≤ _), (by decide : 4 + 0 ≤ _)⟩)
          dsimp only [Pt.U, Pt.locs, Pt.cells, Pt.slots] at X428 l428 y428 z428 st428 hQ428
          subst l428 y428 z428
          obtain ⟨rfl, N428q, K428, EX428, G0_428, G1_428, G2_428, G3_428⟩ := hQ428
          have N428 := Fr.app N0 N428q
          have pre429 : Go p e below T428 (mkF m 70 #[.val (.int p1), .val (.int (1 : Int32)), .val (.int (1 : Int32)), .val (.int (0 : Int32)), .val (.int (0 : Int32)), .unset, .unset, .unset, .unset, .unset, .unset] [(.ref b424)]) s₁ (entryFrame m #[(.int p1)] maxLocals) := fun t k => pre427 t (st428.trans k)
          have O430 : Old Z n0 T428.heap := O426.keep K428 (allS g_b424 all0)
          have Z430 : n0 ≤ T428.heap.size := Nat.le_trans Z426 K428.1
          have pre431 : Go p e below T428 (mkF m 74 #[.val (.int p1), .val (.int (1 : Int32)), .val (.int (1 : Int32)), .val (.int (0 : Int32)), .val (.int (0 : Int32)), .val (.ref b424), .unset, .unset, .unset, .unset, .unset] [(.ref b424)]) s₁ (entryFrame m #[(.int p1)] maxLocals) := fun t k => pre429 t (by
              show Steps p.tables e below (T428.setTop (mkF m 70 #[.val (.int p1), .val (.int (1 : Int32)), .val (.int (1 : Int32)), .val (.int (0 : Int32)), .val (.int (0 : Int32)), .unset, .unset, .unset, .unset, .unset, .unset] [(.ref b424)])) t
              refine XS.astore X428.here hx rfl (hb hby at_70) rfl rfl (l' := #[.val (.int p1), .val (.int (1 : Int32)), .val (.int (1 : Int32)), .val (.int (0 : Int32)), .val (.int (0 : Int32)), .val (.ref b424), .unset, .unset, .unset, .unset, .unset]) rfl ?_
              show Steps p.tables e below (T428.setTop (mkF m 72 #[.val (.int p1), .val (.int (1 : Int32)), .val (.int (1 : Int32)), .val (.int (0 : Int32)), .val (.int (0 : Int32)), .val (.ref b424), .unset, .unset, .unset, .unset, .unset] [])) t
              refine XS.aload X428.here hx rfl (hb hby at_72) rfl rfl ?_
              exact k)
          obtain ⟨cq432, kq432, q432a, q432b, q432c⟩ := isOf hZ rfl EX428
          obtain ⟨_, _, ⟨T432, L432, k432, n432⟩, -, X432, ⟨Lc432, hQ432, l432, y432, z432⟩, st432⟩ := X428.virtualBack hx (y := (⟨"com/example/picketline/picketline/protocol/Surroundings", "towardGap", "()Lcom/example/picketline/picketline/protocol/Heading;"⟩ : MethodName)) (z := (⟨"com/example/picketline/picketline/protocol/Surroundings", "towardGap", "()Lcom/example/picketline/picketline/protocol/Heading;"⟩ : MethodName)) hown (mvT hZ (hw _ (List.mem_of_getElem? (i := 22) rfl))) (mvT hZ (hw _ (List.mem_of_getElem? (i := 23) rfl))) (notFace_of_selects (args := #[]) (mvT hZ (hw _ (List.mem_of_getElem? (i := 25) rfl)))) (mvT hZ (hw _ (List.mem_of_getElem? (i := 25) rfl))) (mvT hZ (hw _ (List.mem_of_getElem? (i := 24) rfl))) (by decide) (backOf (W := 0) (rmT l Z a0 hw [] b424 (1 : Int32) (1 : Int32) (0 : Int32) (0 : Int32) w0 w1 w2 w0 T428.heap n0 Z430 G0_428 G1_428 G2_428 G3_428 (S0.ext O430.2) (S1.ext O430.2) (S2.ext O430.2) (by simp [towF])) hZ (hw _ (List.mem_of_getElem? (i := 26) rfl)) (hw _ (List.mem_of_getElem? (i := 2) rfl)) (by decide) (by decide)) q432a q432c (g := (mkF m 74 #[.val (.int p1), .val (.int (1 : Int32)), .val (.int (1 : Int32)), .val (.int (0 : Int32)), .val (.int (0 : Int32)), .val (.ref b424), .unset, .unset, .unset, .unset, .unset] [(.ref b424)])) rfl (by rw [hml]; rfl) (Steps.refl _) (argsL := []) (rest := []) (lenOf pdL_1 rfl) rfl (by show 2 * 0 + _ ≤ _; exact Nat.le_of_eq rfl) (hb hby at_74) (fun _ _ => ⟨rfl, rfl, (by decide : 1 + 0 ≤ _), (by decide : 4 + 0 ≤ _)⟩)
          dsimp only [Pt.U, Pt.locs, Pt.cells, Pt.slots] at X432 l432 y432 z432 st432 hQ432
          subst l432 y432 z432
          obtain ⟨rfl, N432q, hq432⟩ := hQ432
          have N432 := Fr.app N428 N432q
          have pre433 : Go p e below T432 (mkF m 77 #[.val (.int p1), .val (.int (1 : Int32)), .val (.int (1 : Int32)), .val (.int (0 : Int32)), .val (.int (0 : Int32)), .val (.ref b424), .unset, .unset, .unset, .unset, .unset] [(.ref w0)]) s₁ (entryFrame m #[(.int p1)] maxLocals) := fun t k => pre431 t (st432.trans k)
          have e432 : T432.heap = T428.heap := hq432
          have pre434 : Go p e below T432 (mkF m 80 #[.val (.int p1), .val (.int (1 : Int32)), .val (.int (1 : Int32)), .val (.int (0 : Int32)), .val (.int (0 : Int32)), .val (.ref b424), .val (.ref w0), .unset, .unset, .unset, .unset] [(.int (1 : Int32))]) s₁ (entryFrame m #[(.int p1)] maxLocals) := fun t k => pre433 t (by
              show Steps p.tables e below (T432.setTop (mkF m 77 #[.val (.int p1), .val (.int (1 : Int32)), .val (.int (1 : Int32)), .val (.int (0 : Int32)), .val (.int (0 : Int32)), .val (.ref b424), .unset, .unset, .unset, .unset, .unset] [(.ref w0)])) t
              refine XS.astore X432.here hx rfl (hb hby at_77) rfl rfl (l' := #[.val (.int p1), .val (.int (1 : Int32)), .val (.int (1 : Int32)), .val (.int (0 : Int32)), .val (.int (0 : Int32)), .val (.ref b424), .val (.ref w0), .unset, .unset, .unset, .unset]) rfl ?_
              show Steps p.tables e below (T432.setTop (mkF m 79 #[.val (.int p1), .val (.int (1 : Int32)), .val (.int (1 : Int32)), .val (.int (0 : Int32)), .val (.int (0 : Int32)), .val (.ref b424), .val (.ref w0), .unset, .unset, .unset, .unset] [])) t
              refine XS.iloadN X432.here hx rfl (hb hby at_79) rfl ?_
              exact k)
          have pre435 : Go p e below T432 (mkF m 83 #[.val (.int p1), .val (.int (1 : Int32)), .val (.int (1 : Int32)), .val (.int (0 : Int32)), .val (.int (0 : Int32)), .val (.ref b424), .val (.ref w0), .unset, .unset, .unset, .unset] []) s₁ (entryFrame m #[(.int p1)] maxLocals) := fun t k => pre434 t (XS.ifNo X432.here hx rfl (hb hby at_80) rfl ((if0 _ _).trans (feq (by decide : ¬ ((1 : Int32) = (0 : Int32)))).1) k)
          have pre436 : Go p e below T432 (mkF m 85 #[.val (.int p1), .val (.int (1 : Int32)), .val (.int (1 : Int32)), .val (.int (0 : Int32)), .val (.int (0 : Int32)), .val (.ref b424), .val (.ref w0), .unset, .unset, .unset, .unset] [(.int (0 : Int32))]) s₁ (entryFrame m #[(.int p1)] maxLocals) := fun t k => pre435 t (by
              show Steps p.tables e below (T432.setTop (mkF m 83 #[.val (.int p1), .val (.int (1 : Int32)), .val (.int (1 : Int32)), .val (.int (0 : Int32)), .val (.int (0 : Int32)), .val (.ref b424), .val (.ref w0), .unset, .unset, .unset, .unset] [])) t
              refine XS.iload X432.here hx rfl (hb hby at_83) rfl ?_
              exact k)
          have pre437 : Go p e below T432 (mkF m 92 #[.val (.int p1), .val (.int (1 : Int32)), .val (.int (1 : Int32)), .val (.int (0 : Int32)), .val (.int (0 : Int32)), .val (.ref b424), .val (.ref w0), .unset, .unset, .unset, .unset] []) s₁ (entryFrame m #[(.int p1)] maxLocals) := fun t k => pre436 t (XS.ifYes X432.here hx rfl (pc0 := 85) (pc' := 92) rfl (hb hby at_85) rfl ((if0 _ _).trans (teq (by decide : (0 : Int32) = (0 : Int32))).1) (by decide) (by decide) k)
          have pre438 : Go p e below T432 (mkF m 96 #[.val (.int p1), .val (.int (1 : Int32)), .val (.int (1 : Int32)), .val (.int (0 : Int32)), .val (.int (0 : Int32)), .val (.ref b424), .val (.ref w0), .val (.int (0 : Int32)), .unset, .unset, .unset] [(.int (1 : Int32))]) s₁ (entryFrame m #[(.int p1)] maxLocals) := fun t k => pre437 t (by
              show Steps p.tables e below (T432.setTop (mkF m 92 #[.val (.int p1), .val (.int (1 : Int32)), .val (.int (1 : Int32)), .val (.int (0 : Int32)), .val (.int (0 : Int32)), .val (.ref b424), .val (.ref w0), .unset, .unset, .unset, .unset] [])) t
              refine XS.iconst X432.here hx rfl (hb hby at_92) ?_
              show Steps p.tables e below (T432.setTop (mkF m 93 #[.val (.int p1), .val (.int (1 : Int32)), .val (.int (1 : Int32)), .val (.int (0 : Int32)), .val (.int (0 : Int32)), .val (.ref b424), .val (.ref w0), .unset, .unset, .unset, .unset] [(.int (0 : Int32))])) t
              refine XS.istore X432.here hx rfl (hb hby at_93) rfl (l' := #[.val (.int p1), .val (.int (1 : Int32)), .val (.int (1 : Int32)), .val (.int (0 : Int32)), .val (.int (0 : Int32)), .val (.ref b424), .val (.ref w0), .val (.int (0 : Int32)), .unset, .unset, .unset]) rfl ?_
              show Steps p.tables e below (T432.setTop (mkF m 95 #[.val (.int p1), .val (.int (1 : Int32)), .val (.int (1 : Int32)), .val (.int (0 : Int32)), .val (.int (0 : Int32)), .val (.ref b424), .val (.ref w0), .val (.int (0 : Int32)), .unset, .unset, .unset] [])) t
              refine XS.iloadN X432.here hx rfl (hb hby at_95) rfl ?_
              exact k)
          have pre439 : Go p e below T432 (mkF m 99 #[.val (.int p1), .val (.int (1 : Int32)), .val (.int (1 : Int32)), .val (.int (0 : Int32)), .val (.int (0 : Int32)), .val (.ref b424), .val (.ref w0), .val (.int (0 : Int32)), .unset, .unset, .unset] []) s₁ (entryFrame m #[(.int p1)] maxLocals) := fun t k => pre438 t (XS.ifNo X432.here hx rfl (hb hby at_96) rfl ((if0 _ _).trans (feq (by decide : ¬ ((1 : Int32) = (0 : Int32)))).1) k)
          have pre440 : Go p e below T432 (mkF m 100 #[.val (.int p1), .val (.int (1 : Int32)), .val (.int (1 : Int32)), .val (.int (0 : Int32)), .val (.int (0 : Int32)), .val (.ref b424), .val (.ref w0), .val (.int (0 : Int32)), .unset, .unset, .unset] [(.int (0 : Int32))]) s₁ (entryFrame m #[(.int p1)] maxLocals) := fun t k => pre439 t (by
              show Steps p.tables e below (T432.setTop (mkF m 99 #[.val (.int p1), .val (.int (1 : Int32)), .val (.int (1 : Int32)), .val (.int (0 : Int32)), .val (.int (0 : Int32)), .val (.ref b424), .val (.ref w0), .val (.int (0 : Int32)), .unset, .unset, .unset] [])) t
              refine XS.iloadN X432.here hx rfl (hb hby at_99) rfl ?_
              exact k)
          have pre441 : Go p e below T432 (mkF m 107 #[.val (.int p1), .val (.int (1 : Int32)), .val (.int (1 : Int32)), .val (.int (0 : Int32)), .val (.int (0 : Int32)), .val (.ref b424), .val (.ref w0), .val (.int (0 : Int32)), .unset, .unset, .unset] []) s₁ (entryFrame m #[(.int p1)] maxLocals) := fun t k => pre440 t (XS.ifYes X432.here hx rfl (pc0 := 100) (pc' := 107) rfl (hb hby at_100) rfl ((if0 _ _).trans (teq (by decide : (0 : Int32) = (0 : Int32))).1) (by decide) (by decide) k)
          have pre442 : Go p e below T432 (mkF m 119 #[.val (.int p1), .val (.int (1 : Int32)), .val (.int (1 : Int32)), .val (.int (0 : Int32)), .val (.int (0 : Int32)), .val (.ref b424), .val (.ref w0), .val (.int (0 : Int32)), .val (.int (0 : Int32)), .val (.int (0 : Int32)), .unset] [(.int (0 : Int32))]) s₁ (entryFrame m #[(.int p1)] maxLocals) := fun t k => pre441 t (by
              show Steps p.tables e below (T432.setTop (mkF m 107 #[.val (.int p1), .val (.int (1 : Int32)), .val (.int (1 : Int32)), .val (.int (0 : Int32)), .val (.int (0 : Int32)), .val (.ref b424), .val (.ref w0), .val (.int (0 : Int32)), .unset, .unset, .unset] [])) t
              refine XS.iconst X432.here hx rfl (hb hby at_107) ?_
              show Steps p.tables e below (T432.setTop (mkF m 108 #[.val (.int p1), .val (.int (1 : Int32)), .val (.int (1 : Int32)), .val (.int (0 : Int32)), .val (.int (0 : Int32)), .val (.ref b424), .val (.ref w0), .val (.int (0 : Int32)), .unset, .unset, .unset] [(.int (0 : Int32))])) t
              refine XS.istore X432.here hx rfl (hb hby at_108) rfl (l' := #[.val (.int p1), .val (.int (1 : Int32)), .val (.int (1 : Int32)), .val (.int (0 : Int32)), .val (.int (0 : Int32)), .val (.ref b424), .val (.ref w0), .val (.int (0 : Int32)), .val (.int (0 : Int32)), .unset, .unset]) rfl ?_
              show Steps p.tables e below (T432.setTop (mkF m 110 #[.val (.int p1), .val (.int (1 : Int32)), .val (.int (1 : Int32)), .val (.int (0 : Int32)), .val (.int (0 : Int32)), .val (.ref b424), .val (.ref w0), .val (.int (0 : Int32)), .val (.int (0 : Int32)), .unset, .unset] [])) t
              refine XS.iload X432.here hx rfl (hb hby at_110) rfl ?_
              show Steps p.tables e below (T432.setTop (mkF m 112 #[.val (.int p1), .val (.int (1 : Int32)), .val (.int (1 : Int32)), .val (.int (0 : Int32)), .val (.int (0 : Int32)), .val (.ref b424), .val (.ref w0), .val (.int (0 : Int32)), .val (.int (0 : Int32)), .unset, .unset] [(.int (0 : Int32))])) t
              refine XS.iload X432.here hx rfl (hb hby at_112) rfl ?_
              show Steps p.tables e below (T432.setTop (mkF m 114 #[.val (.int p1), .val (.int (1 : Int32)), .val (.int (1 : Int32)), .val (.int (0 : Int32)), .val (.int (0 : Int32)), .val (.ref b424), .val (.ref w0), .val (.int (0 : Int32)), .val (.int (0 : Int32)), .unset, .unset] [(.int (0 : Int32)), (.int (0 : Int32))])) t
              refine XS.isub X432.here hx rfl (hb hby at_114) rfl ?_
              show Steps p.tables e below (T432.setTop (mkF m 115 #[.val (.int p1), .val (.int (1 : Int32)), .val (.int (1 : Int32)), .val (.int (0 : Int32)), .val (.int (0 : Int32)), .val (.ref b424), .val (.ref w0), .val (.int (0 : Int32)), .val (.int (0 : Int32)), .unset, .unset] [(.int (0 : Int32))])) t
              refine XS.istore X432.here hx rfl (hb hby at_115) rfl (l' := #[.val (.int p1), .val (.int (1 : Int32)), .val (.int (1 : Int32)), .val (.int (0 : Int32)), .val (.int (0 : Int32)), .val (.ref b424), .val (.ref w0), .val (.int (0 : Int32)), .val (.int (0 : Int32)), .val (.int (0 : Int32)), .unset]) rfl ?_
              show Steps p.tables e below (T432.setTop (mkF m 117 #[.val (.int p1), .val (.int (1 : Int32)), .val (.int (1 : Int32)), .val (.int (0 : Int32)), .val (.int (0 : Int32)), .val (.ref b424), .val (.ref w0), .val (.int (0 : Int32)), .val (.int (0 : Int32)), .val (.int (0 : Int32)), .unset] [])) t
              refine XS.iload X432.here hx rfl (hb hby at_117) rfl ?_
              exact k)
          have pre443 : Go p e below T432 (mkF m 130 #[.val (.int p1), .val (.int (1 : Int32)), .val (.int (1 : Int32)), .val (.int (0 : Int32)), .val (.int (0 : Int32)), .val (.ref b424), .val (.ref w0), .val (.int (0 : Int32)), .val (.int (0 : Int32)), .val (.int (0 : Int32)), .unset] []) s₁ (entryFrame m #[(.int p1)] maxLocals) := fun t k => pre442 t (XS.ifYes X432.here hx rfl (pc0 := 119) (pc' := 130) rfl (hb hby at_119) rfl ((if0 _ _).trans (flt (by decide : ¬ ((0 : Int32) < (0 : Int32)))).2.2.2) (by decide) (by decide) k)
          have pre444 : Go p e below T432 (mkF m 132 #[.val (.int p1), .val (.int (1 : Int32)), .val (.int (1 : Int32)), .val (.int (0 : Int32)), .val (.int (0 : Int32)), .val (.ref b424), .val (.ref w0), .val (.int (0 : Int32)), .val (.int (0 : Int32)), .val (.int (0 : Int32)), .unset] [(.int (0 : Int32))]) s₁ (entryFrame m #[(.int p1)] maxLocals) := fun t k => pre443 t (by
              show Steps p.tables e below (T432.setTop (mkF m 130 #[.val (.int p1), .val (.int (1 : Int32)), .val (.int (1 : Int32)), .val (.int (0 : Int32)), .val (.int (0 : Int32)), .val (.ref b424), .val (.ref w0), .val (.int (0 : Int32)), .val (.int (0 : Int32)), .val (.int (0 : Int32)), .unset] [])) t
              refine XS.iload X432.here hx rfl (hb hby at_130) rfl ?_
              exact k)
          have pre445 : Go p e below T432 (mkF m 143 #[.val (.int p1), .val (.int (1 : Int32)), .val (.int (1 : Int32)), .val (.int (0 : Int32)), .val (.int (0 : Int32)), .val (.ref b424), .val (.ref w0), .val (.int (0 : Int32)), .val (.int (0 : Int32)), .val (.int (0 : Int32)), .unset] []) s₁ (entryFrame m #[(.int p1)] maxLocals) := fun t k => pre444 t (XS.ifYes X432.here hx rfl (pc0 := 132) (pc' := 143) rfl (hb hby at_132) rfl ((if0 _ _).trans (flt (by decide : ¬ ((0 : Int32) < (0 : Int32)))).2.1) (by decide) (by decide) k)
          obtain ⟨T446, X446, e446, st446⟩ := getS2 X432 hx hZ hown (host := "") (Or.inl (hw _ (List.mem_of_getElem? (i := 30) rfl))) Via.refl e432 (S0.ext O430.2) (g := (mkF m 143 #[.val (.int p1), .val (.int (1 : Int32)), .val (.int (1 : Int32)), .val (.int (0 : Int32)), .val (.int (0 : Int32)), .val (.ref b424), .val (.ref w0), .val (.int (0 : Int32)), .val (.int (0 : Int32)), .val (.int (0 : Int32)), .unset] [])) rfl (hb hby at_143)
          have pre447 : Go p e below T446 (mkF m 146 #[.val (.int p1), .val (.int (1 : Int32)), .val (.int (1 : Int32)), .val (.int (0 : Int32)), .val (.int (0 : Int32)), .val (.ref b424), .val (.ref w0), .val (.int (0 : Int32)), .val (.int (0 : Int32)), .val (.int (0 : Int32)), .unset] [(.ref w0)]) s₁ (entryFrame m #[(.int p1)] maxLocals) := fun t k => pre445 t (st446 t k)
          have pre448 : Go p e below T446 (mkF m 152 #[.val (.int p1), .val (.int (1 : Int32)), .val (.int (1 : Int32)), .val (.int (0 : Int32)), .val (.int (0 : Int32)), .val (.ref b424), .val (.ref w0), .val (.int (0 : Int32)), .val (.int (0 : Int32)), .val (.int (0 : Int32)), .val (.ref w0)] [(.ref w0), (.ref w0)]) s₁ (entryFrame m #[(.int p1)] maxLocals) := fun t k => pre447 t (by
              show Steps p.tables e below (T446.setTop (mkF m 146 #[.val (.int p1), .val (.int (1 : Int32)), .val (.int (1 : Int32)), .val (.int (0 : Int32)), .val (.int (0 : Int32)), .val (.ref b424), .val (.ref w0), .val (.int (0 : Int32)), .val (.int (0 : Int32)), .val (.int (0 : Int32)), .unset] [(.ref w0)])) t
              refine XS.astore X446.here hx rfl (hb hby at_146) rfl rfl (l' := #[.val (.int p1), .val (.int (1 : Int32)), .val (.int (1 : Int32)), .val (.int (0 : Int32)), .val (.int (0 : Int32)), .val (.ref b424), .val (.ref w0), .val (.int (0 : Int32)), .val (.int (0 : Int32)), .val (.int (0 : Int32)), .val (.ref w0)]) rfl ?_
              show Steps p.tables e below (T446.setTop (mkF m 148 #[.val (.int p1), .val (.int (1 : Int32)), .val (.int (1 : Int32)), .val (.int (0 : Int32)), .val (.int (0 : Int32)), .val (.ref b424), .val (.ref w0), .val (.int (0 : Int32)), .val (.int (0 : Int32)), .val (.int (0 : Int32)), .val (.ref w0)] [])) t
              refine XS.aload X446.here hx rfl (hb hby at_148) rfl rfl ?_
              show Steps p.tables e below (T446.setTop (mkF m 150 #[.val (.int p1), .val (.int (1 : Int32)), .val (.int (1 : Int32)), .val (.int (0 : Int32)), .val (.int (0 : Int32)), .val (.ref b424), .val (.ref w0), .val (.int (0 : Int32)), .val (.int (0 : Int32)), .val (.int (0 : Int32)), .val (.ref w0)] [(.ref w0)])) t
              refine XS.aload X446.here hx rfl (hb hby at_150) rfl rfl ?_
              exact k)
          have pre449 : Go p e below T446 (mkF m 155 #[.val (.int p1), .val (.int (1 : Int32)), .val (.int (1 : Int32)), .val (.int (0 : Int32)), .val (.int (0 : Int32)), .val (.ref b424), .val (.ref w0), .val (.int (0 : Int32)), .val (.int (0 : Int32)), .val (.int (0 : Int32)), .val (.ref w0)] []) s₁ (entryFrame m #[(.int p1)] maxLocals) := fun t k => pre448 t (Jvm.RoadKit.acmp (g := (mkF m 152 #[.val (.int p1), .val (.int (1 : Int32)), .val (.int (1 : Int32)), .val (.int (0 : Int32)), .val (.int (0 : Int32)), .val (.ref b424), .val (.ref w0), .val (.int (0 : Int32)), .val (.int (0 : Int32)), .val (.int (0 : Int32)), .val (.ref w0)] [(.ref w0), (.ref w0)])) X446 hx rfl rfl rfl (pc0 := 152) (pc' := 155) (same := true) rfl (hb hby at_152) rfl (decide_eq_true rfl) (by decide) (by decide) k)
          have pre450 : Go p e below T446 (mkF m 160 #[.val (.int p1), .val (.int (1 : Int32)), .val (.int (1 : Int32)), .val (.int (0 : Int32)), .val (.int (0 : Int32)), .val (.ref b424), .val (.ref w0), .val (.int (0 : Int32)), .val (.int (0 : Int32)), .val (.int (0 : Int32)), .val (.ref w0)] [(.int (1 : Int32))]) s₁ (entryFrame m #[(.int p1)] maxLocals) := fun t k => pre449 t (by
              show Steps p.tables e below (T446.setTop (mkF m 155 #[.val (.int p1), .val (.int (1 : Int32)), .val (.int (1 : Int32)), .val (.int (0 : Int32)), .val (.int (0 : Int32)), .val (.ref b424), .val (.ref w0), .val (.int (0 : Int32)), .val (.int (0 : Int32)), .val (.int (0 : Int32)), .val (.ref w0)] [])) t
              refine XS.iconst X446.here hx rfl (hb hby at_155) ?_
              show Steps p.tables e below (T446.setTop (mkF m 156 #[.val (.int p1), .val (.int (1 : Int32)), .val (.int (1 : Int32)), .val (.int (0 : Int32)), .val (.int (0 : Int32)), .val (.ref b424), .val (.ref w0), .val (.int (0 : Int32)), .val (.int (0 : Int32)), .val (.int (0 : Int32)), .val (.ref w0)] [(.int (1 : Int32))])) t
              refine XS.goto X446.here hx rfl (pc0 := 156) (pc' := 160) rfl (hb hby at_156) (by decide) (by decide) ?_
              exact k)
          have hnr : Value.int (nar .boolean (1 : Int32)) = (.int (1 : Int32)) := by rfl
          obtain ⟨fs, hr, hrun, hended, hW, hsame⟩ := X446.leave (v := some (.int (1 : Int32))) (fun h => by rw [Bd.returns] at h; cases h)
          refine ⟨_, _, pre450 _ (retN X446 hx (t := .boolean) Bd.returns (by simp) (hb hby at_160) (hnr ▸ hr)), hrun, hended, _, _, rfl, ?_, ⟨_, rfl⟩, hW, hsame.mono (by decide) (by decide)⟩
          show QL Z p1 w0 w1 w2 h0 n0 _ T446.heap _
          rw [e446]
          exact ⟨rfl, N432⟩
        · have pre451 : Go p e below s₁ (mkF m 47 #[.val (.int p1), .val (.int (1 : Int32)), .val (.int (1 : Int32)), .val (.int (0 : Int32)), .unset, .unset, .unset, .unset, .unset, .unset, .unset] []) s₁ (entryFrame m #[(.int p1)] maxLocals) := fun t k => pre421 t (XS.ifNo X0.here hx rfl (hb hby at_44) rfl ((if0 _ _).trans (feq hc44).1) k)
          have pre452 : Go p e below s₁ (mkF m 48 #[.val (.int p1), .val (.int (1 : Int32)), .val (.int (1 : Int32)), .val (.int (0 : Int32)), .unset, .unset, .unset, .unset, .unset, .unset, .unset] [(.int (1 : Int32))]) s₁ (entryFrame m #[(.int p1)] maxLocals) := fun t k => pre451 t (by
              show Steps p.tables e below (s₁.setTop (mkF m 47 #[.val (.int p1), .val (.int (1 : Int32)), .val (.int (1 : Int32)), .val (.int (0 : Int32)), .unset, .unset, .unset, .unset, .unset, .unset, .unset] [])) t
              refine XS.iloadN X0.here hx rfl (hb hby at_47) rfl ?_
              exact k)
          have pre453 : Go p e below s₁ (mkF m 55 #[.val (.int p1), .val (.int (1 : Int32)), .val (.int (1 : Int32)), .val (.int (0 : Int32)), .unset, .unset, .unset, .unset, .unset, .unset, .unset] []) s₁ (entryFrame m #[(.int p1)] maxLocals) := fun t k => pre452 t (XS.ifYes X0.here hx rfl (pc0 := 48) (pc' := 55) rfl (hb hby at_48) rfl ((if0 _ _).trans (feq (by decide : ¬ ((1 : Int32) = (0 : Int32)))).2) (by decide) (by decide) k)
          have pre454 : Go p e below s₁ (mkF m 58 #[.val (.int p1), .val (.int (1 : Int32)), .val (.int (1 : Int32)), .val (.int (0 : Int32)), .val (.int (0 : Int32)), .unset, .unset, .unset, .unset, .unset, .unset] []) s₁ (entryFrame m #[(.int p1)] maxLocals) := fun t k => pre453 t (by
              show Steps p.tables e below (s₁.setTop (mkF m 55 #[.val (.int p1), .val (.int (1 : Int32)), .val (.int (1 : Int32)), .val (.int (0 : Int32)), .unset, .unset, .unset, .unset, .unset, .unset, .unset] [])) t
              refine XS.iconst X0.here hx rfl (hb hby at_55) ?_
              show Steps p.tables e below (s₁.setTop (mkF m 56 #[.val (.int p1), .val (.int (1 : Int32)), .val (.int (1 : Int32)), .val (.int (0 : Int32)), .unset, .unset, .unset, .unset, .unset, .unset, .unset] [(.int (0 : Int32))])) t
              refine XS.istore X0.here hx rfl (hb hby at_56) rfl (l' := #[.val (.int p1), .val (.int (1 : Int32)), .val (.int (1 : Int32)), .val (.int (0 : Int32)), .val (.int (0 : Int32)), .unset, .unset, .unset, .unset, .unset, .unset]) rfl ?_
              exact k)
          obtain ⟨T455, h455, X455, e455, E455, A455, D455, U455, st455⟩ := newO X0 hx hZ hown (hw _ (List.mem_of_getElem? (i := 0) rfl)) (hw _ (List.mem_of_getElem? (i := 1) rfl)) (hw _ (List.mem_of_getElem? (i := 2) rfl)) e0 (g := (mkF m 58 #[.val (.int p1), .val (.int (1 : Int32)), .val (.int (1 : Int32)), .val (.int (0 : Int32)), .val (.int (0 : Int32)), .unset, .unset, .unset, .unset, .unset, .unset] [])) rfl (hb hby at_58) (by decide) (by decide)
          obtain ⟨b455, g455⟩ : ∃ z, z = h0.size := ⟨_, rfl⟩
          rw [← g455] at A455 st455 D455
          have g_b455 : n0 ≤ b455 := Nat.le_trans Z0 (Nat.le_of_eq g455.symm)
          have pre456 : Go p e below T455 (mkF m 61 #[.val (.int p1), .val (.int (1 : Int32)), .val (.int (1 : Int32)), .val (.int (0 : Int32)), .val (.int (0 : Int32)), .unset, .unset, .unset, .unset, .unset, .unset] [(.ref b455)]) s₁ (entryFrame m #[(.int p1)] maxLocals) := fun t k => pre454 t (st455 t k)
          have O457 : Old Z n0 h455 := O0.ext E455
          have Z457 : n0 ≤ h455.size := Nat.le_trans Z0 E455.1
          have F_seesLeft_b455 : Fld Z h455 b455 "com/example/picketline/picketline/protocol/Surroundings" "seesLeft" "Z" (.int (0 : Int32)) := D455 (Or.inr (hw _ (List.mem_of_getElem? (i := 15) rfl))) (ty := .boolean) (by decide)
          have F_seesRight_b455 : Fld Z h455 b455 "com/example/picketline/picketline/protocol/Surroundings" "seesRight" "Z" (.int (0 : Int32)) := D455 (Or.inr (hw _ (List.mem_of_getElem? (i := 17) rfl))) (ty := .boolean) (by decide)
          have F_gapLeft_b455 : Fld Z h455 b455 "com/example/picketline/picketline/protocol/Surroundings" "gapLeft" "Z" (.int (0 : Int32)) := D455 (Or.inr (hw _ (List.mem_of_getElem? (i := 19) rfl))) (ty := .boolean) (by decide)
          have F_gapRight_b455 : Fld Z h455 b455 "com/example/picketline/picketline/protocol/Surroundings" "gapRight" "Z" (.int (0 : Int32)) := D455 (Or.inr (hw _ (List.mem_of_getElem? (i := 21) rfl))) (ty := .boolean) (by decide)
          have pre458 : Go p e below T455 (mkF m 67 #[.val (.int p1), .val (.int (1 : Int32)), .val (.int (1 : Int32)), .val (.int (0 : Int32)), .val (.int (0 : Int32)), .unset, .unset, .unset, .unset, .unset, .unset] [(.int (0 : Int32)), (.int (0 : Int32)), (.int (1 : Int32)), (.int (1 : Int32)), (.ref b455), (.ref b455)]) s₁ (entryFrame m #[(.int p1)] maxLocals) := fun t k => pre456 t (by
              show Steps p.tables e below (T455.setTop (mkF m 61 #[.val (.int p1), .val (.int (1 : Int32)), .val (.int (1 : Int32)), .val (.int (0 : Int32)), .val (.int (0 : Int32)), .unset, .unset, .unset, .unset, .unset, .unset] [(.ref b455)])) t
              refine XS.dup X455.here hx rfl (hb hby at_61) rfl rfl ?_
              show Steps p.tables e below (T455.setTop (mkF m 62 #[.val (.int p1), .val (.int (1 : Int32)), .val (.int (1 : Int32)), .val (.int (0 : Int32)), .val (.int (0 : Int32)), .unset, .unset, .unset, .unset, .unset, .unset] [(.ref b455), (.ref b455)])) t
              refine XS.iloadN X455.here hx rfl (hb hby at_62) rfl ?_
              show Steps p.tables e below (T455.setTop (mkF m 63 #[.val (.int p1), .val (.int (1 : Int32)), .val (.int (1 : Int32)), .val (.int (0 : Int32)), .val (.int (0 : Int32)), .unset, .unset, .unset, .unset, .unset, .unset] [(.int (1 : Int32)), (.ref b455), (.ref b455)])) t
              refine XS.iloadN X455.here hx rfl (hb hby at_63) rfl ?_
              show Steps p.tables e below (T455.setTop (mkF m 64 #[.val (.int p1), .val (.int (1 : Int32)), .val (.int (1 : Int32)), .val (.int (0 : Int32)), .val (.int (0 : Int32)), .unset, .unset, .unset, .unset, .unset, .unset] [(.int (1 : Int32)), (.int (1 : Int32)), (.ref b455), (.ref b455)])) t
              refine XS.iloadN X455.here hx rfl (hb hby at_64) rfl ?_
              show Steps p.tables e below (T455.setTop (mkF m 65 #[.val (.int p1), .val (.int (1 : Int32)), .val (.int (1 : Int32)), .val (.int (0 : Int32)), .val (.int (0 : Int32)), .unset, .unset, .unset, .unset, .unset, .unset] [(.int (0 : Int32)), (.int (1 : Int32)), (.int (1 : Int32)), (.ref b455), (.ref b455)])) t
              refine XS.iload X455.here hx rfl (hb hby at_65) rfl ?_
              exact k)
          obtain ⟨_, _, ⟨T459, L459, k459, n459⟩, -, X459, ⟨Lc459, hQ459, l459, y459, z459⟩, st459⟩ := X455.specialBack hx (y := (⟨"com/example/picketline/picketline/protocol/Surroundings", "<init>", "(ZZZZ)V"⟩ : MethodName)) rfl hown (mvT hZ (hw _ (List.mem_of_getElem? (i := 3) rfl))) (mvT hZ (hw _ (List.mem_of_getElem? (i := 4) rfl))) (mvT hZ (hw _ (List.mem_of_getElem? (i := 5) rfl))) (by decide) (backOf (W := 1) (rmC l Z a0 hw [] b455 (1 : Int32) (1 : Int32) (0 : Int32) (0 : Int32) h455 n0 Z457 A455 g_b455 F_seesLeft_b455 F_seesRight_b455 F_gapLeft_b455 F_gapRight_b455 rfl rfl rfl rfl rfl rfl rfl rfl) hZ (hw _ (List.mem_of_getElem? (i := 5) rfl)) (hw _ (List.mem_of_getElem? (i := 2) rfl)) (by decide) (by decide)) (g := (mkF m 67 #[.val (.int p1), .val (.int (1 : Int32)), .val (.int (1 : Int32)), .val (.int (0 : Int32)), .val (.int (0 : Int32)), .unset, .unset, .unset, .unset, .unset, .unset] [(.int (0 : Int32)), (.int (0 : Int32)), (.int (1 : Int32)), (.int (1 : Int32)), (.ref b455), (.ref b455)])) rfl (by rw [hml]; rfl) (Steps.refl _) (a := b455) (argsL := [(.int (1 : Int32)), (.int (1 : Int32)), (.int (0 : Int32)), (.int (0 : Int32))]) (rest := [(.ref b455)]) (lenOf pdL_0 rfl) rfl (by show 2 * 0 + _ ≤ _; exact Nat.le_of_eq rfl) (hb hby at_67) (fun _ _ => ⟨rfl, e455, (by decide : 1 + 0 ≤ _), (by decide : 4 + 0 ≤ _)⟩)
          dsimp only [Pt.U, Pt.locs, Pt.cells, Pt.slots] at X459 l459 y459 z459 st459 hQ459
          subst l459 y459 z459
          obtain ⟨rfl, N459q, K459, EX459, G0_459, G1_459, G2_459, G3_459⟩ := hQ459
          have N459 := Fr.app N0 N459q
          have pre460 : Go p e below T459 (mkF m 70 #[.val (.int p1), .val (.int (1 : Int32)), .val (.int (1 : Int32)), .val (.int (0 : Int32)), .val (.int (0 : Int32)), .unset, .unset, .unset, .unset, .unset, .unset] [(.ref b455)]) s₁ (entryFrame m #[(.int p1)] maxLocals) := fun t k => pre458 t (st459.trans k)
          have O461 : Old Z n0 T459.heap := O457.keep K459 (allS g_b455 all0)
          have Z461 : n0 ≤ T459.heap.size := Nat.le_trans Z457 K459.1
          have pre462 : Go p e below T459 (mkF m 74 #[.val (.int p1), .val (.int (1 : Int32)), .val (.int (1 : Int32)), .val (.int (0 : Int32)), .val (.int (0 : Int32)), .val (.ref b455), .unset, .unset, .unset, .unset, .unset] [(.ref b455)]) s₁ (entryFrame m #[(.int p1)] maxLocals) := fun t k => pre460 t (by
              show Steps p.tables e below (T459.setTop (mkF m 70 #[.val (.int p1), .val (.int (1 : Int32)), .val (.int (1 : Int32)), .val (.int (0 : Int32)), .val (.int (0 : Int32)), .unset, .unset, .unset, .unset, .unset, .unset] [(.ref b455)])) t
              refine XS.astore X459.here hx rfl (hb hby at_70) rfl rfl (l' := #[.val (.int p1), .val (.int (1 : Int32)), .val (.int (1 : Int32)), .val (.int (0 : Int32)), .val (.int (0 : Int32)), .val (.ref b455), .unset, .unset, .unset, .unset, .unset]) rfl ?_
              show Steps p.tables e below (T459.setTop (mkF m 72 #[.val (.int p1), .val (.int (1 : Int32)), .val (.int (1 : Int32)), .val (.int (0 : Int32)), .val (.int (0 : Int32)), .val (.ref b455), .unset, .unset, .unset, .unset, .unset] [])) t
              refine XS.aload X459.here hx rfl (hb hby at_72) rfl rfl ?_
              exact k)
          obtain ⟨cq463, kq463, q463a, q463b, q463c⟩ := isOf hZ rfl EX459
          obtain ⟨_, _, ⟨T463, L463, k463, n463⟩, -, X463, ⟨Lc463, hQ463, l463, y463, z463⟩, st463⟩ := X459.virtualBack hx (y := (⟨"com/example/picketline/picketline/protocol/Surroundings", "towardGap", "()Lcom/example/picketline/picketline/protocol/Heading;"⟩ : MethodName)) (z := (⟨"com/example/picketline/picketline/protocol/Surroundings", "towardGap", "()Lcom/example/picketline/picketline/protocol/Heading;"⟩ : MethodName)) hown (mvT hZ (hw _ (List.mem_of_getElem? (i := 22) rfl))) (mvT hZ (hw _ (List.mem_of_getElem? (i := 23) rfl))) (notFace_of_selects (args := #[]) (mvT hZ (hw _ (List.mem_of_getElem? (i := 25) rfl)))) (mvT hZ (hw _ (List.mem_of_getElem? (i := 25) rfl))) (mvT hZ (hw _ (List.mem_of_getElem? (i := 24) rfl))) (by decide) (backOf (W := 0) (rmT l Z a0 hw [] b455 (1 : Int32) (1 : Int32) (0 : Int32) (0 : Int32) w0 w1 w2 w0 T459.heap n0 Z461 G0_459 G1_459 G2_459 G3_459 (S0.ext O461.2) (S1.ext O461.2) (S2.ext O461.2) (by simp [towF])) hZ (hw _ (List.mem_of_getElem? (i := 26) rfl)) (hw _ (List.mem_of_getElem? (i := 2) rfl)) (by decide) (by decide)) q463a q463c (g := (mkF m 74 #[.val (.int p1), .val (.int (1 : Int32)), .val (.int (1 : Int32)), .val (.int (0 : Int32)), .val (.int (0 : Int32)), .val (.ref b455), .unset, .unset, .unset, .unset, .unset] [(.ref b455)])) rfl (by rw [hml]; rfl) (Steps.refl _) (argsL := []) (rest := []) (lenOf pdL_1 rfl) rfl (by show 2 * 0 + _ ≤ _; exact Nat.le_of_eq rfl) (hb hby at_74) (fun _ _ => ⟨rfl, rfl, (by decide : 1 + 0 ≤ _), (by decide : 4 + 0 ≤ _)⟩)
          dsimp only [Pt.U, Pt.locs, Pt.cells, Pt.slots] at X463 l463 y463 z463 st463 hQ463
          subst l463 y463 z463
          obtain ⟨rfl, N463q, hq463⟩ := hQ463
          have N463 := Fr.app N459 N463q
          have pre464 : Go p e below T463 (mkF m 77 #[.val (.int p1), .val (.int (1 : Int32)), .val (.int (1 : Int32)), .val (.int (0 : Int32)), .val (.int (0 : Int32)), .val (.ref b455), .unset, .unset, .unset, .unset, .unset] [(.ref w0)]) s₁ (entryFrame m #[(.int p1)] maxLocals) := fun t k => pre462 t (st463.trans k)
          have e463 : T463.heap = T459.heap := hq463
          have pre465 : Go p e below T463 (mkF m 80 #[.val (.int p1), .val (.int (1 : Int32)), .val (.int (1 : Int32)), .val (.int (0 : Int32)), .val (.int (0 : Int32)), .val (.ref b455), .val (.ref w0), .unset, .unset, .unset, .unset] [(.int (1 : Int32))]) s₁ (entryFrame m #[(.int p1)] maxLocals) := fun t k => pre464 t (by
              show Steps p.tables e below (T463.setTop (mkF m 77 #[.val (.int p1), .val (.int (1 : Int32)), .val (.int (1 : Int32)), .val (.int (0 : Int32)), .val (.int (0 : Int32)), .val (.ref b455), .unset, .unset, .unset, .unset, .unset] [(.ref w0)])) t
              refine XS.astore X463.here hx rfl (hb hby at_77) rfl rfl (l' := #[.val (.int p1), .val (.int (1 : Int32)), .val (.int (1 : Int32)), .val (.int (0 : Int32)), .val (.int (0 : Int32)), .val (.ref b455), .val (.ref w0), .unset, .unset, .unset, .unset]) rfl ?_
              show Steps p.tables e below (T463.setTop (mkF m 79 #[.val (.int p1), .val (.int (1 : Int32)), .val (.int (1 : Int32)), .val (.int (0 : Int32)), .val (.int (0 : Int32)), .val (.ref b455), .val (.ref w0), .unset, .unset, .unset, .unset] [])) t
              refine XS.iloadN X463.here hx rfl (hb hby at_79) rfl ?_
              exact k)
          have pre466 : Go p e below T463 (mkF m 83 #[.val (.int p1), .val (.int (1 : Int32)), .val (.int (1 : Int32)), .val (.int (0 : Int32)), .val (.int (0 : Int32)), .val (.ref b455), .val (.ref w0), .unset, .unset, .unset, .unset] []) s₁ (entryFrame m #[(.int p1)] maxLocals) := fun t k => pre465 t (XS.ifNo X463.here hx rfl (hb hby at_80) rfl ((if0 _ _).trans (feq (by decide : ¬ ((1 : Int32) = (0 : Int32)))).1) k)
          have pre467 : Go p e below T463 (mkF m 85 #[.val (.int p1), .val (.int (1 : Int32)), .val (.int (1 : Int32)), .val (.int (0 : Int32)), .val (.int (0 : Int32)), .val (.ref b455), .val (.ref w0), .unset, .unset, .unset, .unset] [(.int (0 : Int32))]) s₁ (entryFrame m #[(.int p1)] maxLocals) := fun t k => pre466 t (by
              show Steps p.tables e below (T463.setTop (mkF m 83 #[.val (.int p1), .val (.int (1 : Int32)), .val (.int (1 : Int32)), .val (.int (0 : Int32)), .val (.int (0 : Int32)), .val (.ref b455), .val (.ref w0), .unset, .unset, .unset, .unset] [])) t
              refine XS.iload X463.here hx rfl (hb hby at_83) rfl ?_
              exact k)
          have pre468 : Go p e below T463 (mkF m 92 #[.val (.int p1), .val (.int (1 : Int32)), .val (.int (1 : Int32)), .val (.int (0 : Int32)), .val (.int (0 : Int32)), .val (.ref b455), .val (.ref w0), .unset, .unset, .unset, .unset] []) s₁ (entryFrame m #[(.int p1)] maxLocals) := fun t k => pre467 t (XS.ifYes X463.here hx rfl (pc0 := 85) (pc' := 92) rfl (hb hby at_85) rfl ((if0 _ _).trans (teq (by decide : (0 : Int32) = (0 : Int32))).1) (by decide) (by decide) k)
          have pre469 : Go p e below T463 (mkF m 96 #[.val (.int p1), .val (.int (1 : Int32)), .val (.int (1 : Int32)), .val (.int (0 : Int32)), .val (.int (0 : Int32)), .val (.ref b455), .val (.ref w0), .val (.int (0 : Int32)), .unset, .unset, .unset] [(.int (1 : Int32))]) s₁ (entryFrame m #[(.int p1)] maxLocals) := fun t k => pre468 t (by
              show Steps p.tables e below (T463.setTop (mkF m 92 #[.val (.int p1), .val (.int (1 : Int32)), .val (.int (1 : Int32)), .val (.int (0 : Int32)), .val (.int (0 : Int32)), .val (.ref b455), .val (.ref w0), .unset, .unset, .unset, .unset] [])) t
              refine XS.iconst X463.here hx rfl (hb hby at_92) ?_
              show Steps p.tables e below (T463.setTop (mkF m 93 #[.val (.int p1), .val (.int (1 : Int32)), .val (.int (1 : Int32)), .val (.int (0 : Int32)), .val (.int (0 : Int32)), .val (.ref b455), .val (.ref w0), .unset, .unset, .unset, .unset] [(.int (0 : Int32))])) t
              refine XS.istore X463.here hx rfl (hb hby at_93) rfl (l' := #[.val (.int p1), .val (.int (1 : Int32)), .val (.int (1 : Int32)), .val (.int (0 : Int32)), .val (.int (0 : Int32)), .val (.ref b455), .val (.ref w0), .val (.int (0 : Int32)), .unset, .unset, .unset]) rfl ?_
              show Steps p.tables e below (T463.setTop (mkF m 95 #[.val (.int p1), .val (.int (1 : Int32)), .val (.int (1 : Int32)), .val (.int (0 : Int32)), .val (.int (0 : Int32)), .val (.ref b455), .val (.ref w0), .val (.int (0 : Int32)), .unset, .unset, .unset] [])) t
              refine XS.iloadN X463.here hx rfl (hb hby at_95) rfl ?_
              exact k)
          have pre470 : Go p e below T463 (mkF m 99 #[.val (.int p1), .val (.int (1 : Int32)), .val (.int (1 : Int32)), .val (.int (0 : Int32)), .val (.int (0 : Int32)), .val (.ref b455), .val (.ref w0), .val (.int (0 : Int32)), .unset, .unset, .unset] []) s₁ (entryFrame m #[(.int p1)] maxLocals) := fun t k => pre469 t (XS.ifNo X463.here hx rfl (hb hby at_96) rfl ((if0 _ _).trans (feq (by decide : ¬ ((1 : Int32) = (0 : Int32)))).1) k)
          have pre471 : Go p e below T463 (mkF m 100 #[.val (.int p1), .val (.int (1 : Int32)), .val (.int (1 : Int32)), .val (.int (0 : Int32)), .val (.int (0 : Int32)), .val (.ref b455), .val (.ref w0), .val (.int (0 : Int32)), .unset, .unset, .unset] [(.int (0 : Int32))]) s₁ (entryFrame m #[(.int p1)] maxLocals) := fun t k => pre470 t (by
              show Steps p.tables e below (T463.setTop (mkF m 99 #[.val (.int p1), .val (.int (1 : Int32)), .val (.int (1 : Int32)), .val (.int (0 : Int32)), .val (.int (0 : Int32)), .val (.ref b455), .val (.ref w0), .val (.int (0 : Int32)), .unset, .unset, .unset] [])) t
              refine XS.iloadN X463.here hx rfl (hb hby at_99) rfl ?_
              exact k)
          have pre472 : Go p e below T463 (mkF m 107 #[.val (.int p1), .val (.int (1 : Int32)), .val (.int (1 : Int32)), .val (.int (0 : Int32)), .val (.int (0 : Int32)), .val (.ref b455), .val (.ref w0), .val (.int (0 : Int32)), .unset, .unset, .unset] []) s₁ (entryFrame m #[(.int p1)] maxLocals) := fun t k => pre471 t (XS.ifYes X463.here hx rfl (pc0 := 100) (pc' := 107) rfl (hb hby at_100) rfl ((if0 _ _).trans (teq (by decide : (0 : Int32) = (0 : Int32))).1) (by decide) (by decide) k)
          have pre473 : Go p e below T463 (mkF m 119 #[.val (.int p1), .val (.int (1 : Int32)), .val (.int (1 : Int32)), .val (.int (0 : Int32)), .val (.int (0 : Int32)), .val (.ref b455), .val (.ref w0), .val (.int (0 : Int32)), .val (.int (0 : Int32)), .val (.int (0 : Int32)), .unset] [(.int (0 : Int32))]) s₁ (entryFrame m #[(.int p1)] maxLocals) := fun t k => pre472 t (by
              show Steps p.tables e below (T463.setTop (mkF m 107 #[.val (.int p1), .val (.int (1 : Int32)), .val (.int (1 : Int32)), .val (.int (0 : Int32)), .val (.int (0 : Int32)), .val (.ref b455), .val (.ref w0), .val (.int (0 : Int32)), .unset, .unset, .unset] [])) t
              refine XS.iconst X463.here hx rfl (hb hby at_107) ?_
              show Steps p.tables e below (T463.setTop (mkF m 108 #[.val (.int p1), .val (.int (1 : Int32)), .val (.int (1 : Int32)), .val (.int (0 : Int32)), .val (.int (0 : Int32)), .val (.ref b455), .val (.ref w0), .val (.int (0 : Int32)), .unset, .unset, .unset] [(.int (0 : Int32))])) t
              refine XS.istore X463.here hx rfl (hb hby at_108) rfl (l' := #[.val (.int p1), .val (.int (1 : Int32)), .val (.int (1 : Int32)), .val (.int (0 : Int32)), .val (.int (0 : Int32)), .val (.ref b455), .val (.ref w0), .val (.int (0 : Int32)), .val (.int (0 : Int32)), .unset, .unset]) rfl ?_
              show Steps p.tables e below (T463.setTop (mkF m 110 #[.val (.int p1), .val (.int (1 : Int32)), .val (.int (1 : Int32)), .val (.int (0 : Int32)), .val (.int (0 : Int32)), .val (.ref b455), .val (.ref w0), .val (.int (0 : Int32)), .val (.int (0 : Int32)), .unset, .unset] [])) t
              refine XS.iload X463.here hx rfl (hb hby at_110) rfl ?_
              show Steps p.tables e below (T463.setTop (mkF m 112 #[.val (.int p1), .val (.int (1 : Int32)), .val (.int (1 : Int32)), .val (.int (0 : Int32)), .val (.int (0 : Int32)), .val (.ref b455), .val (.ref w0), .val (.int (0 : Int32)), .val (.int (0 : Int32)), .unset, .unset] [(.int (0 : Int32))])) t
              refine XS.iload X463.here hx rfl (hb hby at_112) rfl ?_
              show Steps p.tables e below (T463.setTop (mkF m 114 #[.val (.int p1), .val (.int (1 : Int32)), .val (.int (1 : Int32)), .val (.int (0 : Int32)), .val (.int (0 : Int32)), .val (.ref b455), .val (.ref w0), .val (.int (0 : Int32)), .val (.int (0 : Int32)), .unset, .unset] [(.int (0 : Int32)), (.int (0 : Int32))])) t
              refine XS.isub X463.here hx rfl (hb hby at_114) rfl ?_
              show Steps p.tables e below (T463.setTop (mkF m 115 #[.val (.int p1), .val (.int (1 : Int32)), .val (.int (1 : Int32)), .val (.int (0 : Int32)), .val (.int (0 : Int32)), .val (.ref b455), .val (.ref w0), .val (.int (0 : Int32)), .val (.int (0 : Int32)), .unset, .unset] [(.int (0 : Int32))])) t
              refine XS.istore X463.here hx rfl (hb hby at_115) rfl (l' := #[.val (.int p1), .val (.int (1 : Int32)), .val (.int (1 : Int32)), .val (.int (0 : Int32)), .val (.int (0 : Int32)), .val (.ref b455), .val (.ref w0), .val (.int (0 : Int32)), .val (.int (0 : Int32)), .val (.int (0 : Int32)), .unset]) rfl ?_
              show Steps p.tables e below (T463.setTop (mkF m 117 #[.val (.int p1), .val (.int (1 : Int32)), .val (.int (1 : Int32)), .val (.int (0 : Int32)), .val (.int (0 : Int32)), .val (.ref b455), .val (.ref w0), .val (.int (0 : Int32)), .val (.int (0 : Int32)), .val (.int (0 : Int32)), .unset] [])) t
              refine XS.iload X463.here hx rfl (hb hby at_117) rfl ?_
              exact k)
          have pre474 : Go p e below T463 (mkF m 130 #[.val (.int p1), .val (.int (1 : Int32)), .val (.int (1 : Int32)), .val (.int (0 : Int32)), .val (.int (0 : Int32)), .val (.ref b455), .val (.ref w0), .val (.int (0 : Int32)), .val (.int (0 : Int32)), .val (.int (0 : Int32)), .unset] []) s₁ (entryFrame m #[(.int p1)] maxLocals) := fun t k => pre473 t (XS.ifYes X463.here hx rfl (pc0 := 119) (pc' := 130) rfl (hb hby at_119) rfl ((if0 _ _).trans (flt (by decide : ¬ ((0 : Int32) < (0 : Int32)))).2.2.2) (by decide) (by decide) k)
          have pre475 : Go p e below T463 (mkF m 132 #[.val (.int p1), .val (.int (1 : Int32)), .val (.int (1 : Int32)), .val (.int (0 : Int32)), .val (.int (0 : Int32)), .val (.ref b455), .val (.ref w0), .val (.int (0 : Int32)), .val (.int (0 : Int32)), .val (.int (0 : Int32)), .unset] [(.int (0 : Int32))]) s₁ (entryFrame m #[(.int p1)] maxLocals) := fun t k => pre474 t (by
              show Steps p.tables e below (T463.setTop (mkF m 130 #[.val (.int p1), .val (.int (1 : Int32)), .val (.int (1 : Int32)), .val (.int (0 : Int32)), .val (.int (0 : Int32)), .val (.ref b455), .val (.ref w0), .val (.int (0 : Int32)), .val (.int (0 : Int32)), .val (.int (0 : Int32)), .unset] [])) t
              refine XS.iload X463.here hx rfl (hb hby at_130) rfl ?_
              exact k)
          have pre476 : Go p e below T463 (mkF m 143 #[.val (.int p1), .val (.int (1 : Int32)), .val (.int (1 : Int32)), .val (.int (0 : Int32)), .val (.int (0 : Int32)), .val (.ref b455), .val (.ref w0), .val (.int (0 : Int32)), .val (.int (0 : Int32)), .val (.int (0 : Int32)), .unset] []) s₁ (entryFrame m #[(.int p1)] maxLocals) := fun t k => pre475 t (XS.ifYes X463.here hx rfl (pc0 := 132) (pc' := 143) rfl (hb hby at_132) rfl ((if0 _ _).trans (flt (by decide : ¬ ((0 : Int32) < (0 : Int32)))).2.1) (by decide) (by decide) k)
          obtain ⟨T477, X477, e477, st477⟩ := getS2 X463 hx hZ hown (host := "") (Or.inl (hw _ (List.mem_of_getElem? (i := 30) rfl))) Via.refl e463 (S0.ext O461.2) (g := (mkF m 143 #[.val (.int p1), .val (.int (1 : Int32)), .val (.int (1 : Int32)), .val (.int (0 : Int32)), .val (.int (0 : Int32)), .val (.ref b455), .val (.ref w0), .val (.int (0 : Int32)), .val (.int (0 : Int32)), .val (.int (0 : Int32)), .unset] [])) rfl (hb hby at_143)
          have pre478 : Go p e below T477 (mkF m 146 #[.val (.int p1), .val (.int (1 : Int32)), .val (.int (1 : Int32)), .val (.int (0 : Int32)), .val (.int (0 : Int32)), .val (.ref b455), .val (.ref w0), .val (.int (0 : Int32)), .val (.int (0 : Int32)), .val (.int (0 : Int32)), .unset] [(.ref w0)]) s₁ (entryFrame m #[(.int p1)] maxLocals) := fun t k => pre476 t (st477 t k)
          have pre479 : Go p e below T477 (mkF m 152 #[.val (.int p1), .val (.int (1 : Int32)), .val (.int (1 : Int32)), .val (.int (0 : Int32)), .val (.int (0 : Int32)), .val (.ref b455), .val (.ref w0), .val (.int (0 : Int32)), .val (.int (0 : Int32)), .val (.int (0 : Int32)), .val (.ref w0)] [(.ref w0), (.ref w0)]) s₁ (entryFrame m #[(.int p1)] maxLocals) := fun t k => pre478 t (by
              show Steps p.tables e below (T477.setTop (mkF m 146 #[.val (.int p1), .val (.int (1 : Int32)), .val (.int (1 : Int32)), .val (.int (0 : Int32)), .val (.int (0 : Int32)), .val (.ref b455), .val (.ref w0), .val (.int (0 : Int32)), .val (.int (0 : Int32)), .val (.int (0 : Int32)), .unset] [(.ref w0)])) t
              refine XS.astore X477.here hx rfl (hb hby at_146) rfl rfl (l' := #[.val (.int p1), .val (.int (1 : Int32)), .val (.int (1 : Int32)), .val (.int (0 : Int32)), .val (.int (0 : Int32)), .val (.ref b455), .val (.ref w0), .val (.int (0 : Int32)), .val (.int (0 : Int32)), .val (.int (0 : Int32)), .val (.ref w0)]) rfl ?_
              show Steps p.tables e below (T477.setTop (mkF m 148 #[.val (.int p1), .val (.int (1 : Int32)), .val (.int (1 : Int32)), .val (.int (0 : Int32)), .val (.int (0 : Int32)), .val (.ref b455), .val (.ref w0), .val (.int (0 : Int32)), .val (.int (0 : Int32)), .val (.int (0 : Int32)), .val (.ref w0)] [])) t
              refine XS.aload X477.here hx rfl (hb hby at_148) rfl rfl ?_
              show Steps p.tables e below (T477.setTop (mkF m 150 #[.val (.int p1), .val (.int (1 : Int32)), .val (.int (1 : Int32)), .val (.int (0 : Int32)), .val (.int (0 : Int32)), .val (.ref b455), .val (.ref w0), .val (.int (0 : Int32)), .val (.int (0 : Int32)), .val (.int (0 : Int32)), .val (.ref w0)] [(.ref w0)])) t
              refine XS.aload X477.here hx rfl (hb hby at_150) rfl rfl ?_
              exact k)
          have pre480 : Go p e below T477 (mkF m 155 #[.val (.int p1), .val (.int (1 : Int32)), .val (.int (1 : Int32)), .val (.int (0 : Int32)), .val (.int (0 : Int32)), .val (.ref b455), .val (.ref w0), .val (.int (0 : Int32)), .val (.int (0 : Int32)), .val (.int (0 : Int32)), .val (.ref w0)] []) s₁ (entryFrame m #[(.int p1)] maxLocals) := fun t k => pre479 t (Jvm.RoadKit.acmp (g := (mkF m 152 #[.val (.int p1), .val (.int (1 : Int32)), .val (.int (1 : Int32)), .val (.int (0 : Int32)), .val (.int (0 : Int32)), .val (.ref b455), .val (.ref w0), .val (.int (0 : Int32)), .val (.int (0 : Int32)), .val (.int (0 : Int32)), .val (.ref w0)] [(.ref w0), (.ref w0)])) X477 hx rfl rfl rfl (pc0 := 152) (pc' := 155) (same := true) rfl (hb hby at_152) rfl (decide_eq_true rfl) (by decide) (by decide) k)
          have pre481 : Go p e below T477 (mkF m 160 #[.val (.int p1), .val (.int (1 : Int32)), .val (.int (1 : Int32)), .val (.int (0 : Int32)), .val (.int (0 : Int32)), .val (.ref b455), .val (.ref w0), .val (.int (0 : Int32)), .val (.int (0 : Int32)), .val (.int (0 : Int32)), .val (.ref w0)] [(.int (1 : Int32))]) s₁ (entryFrame m #[(.int p1)] maxLocals) := fun t k => pre480 t (by
              show Steps p.tables e below (T477.setTop (mkF m 155 #[.val (.int p1), .val (.int (1 : Int32)), .val (.int (1 : Int32)), .val (.int (0 : Int32)), .val (.int (0 : Int32)), .val (.ref b455), .val (.ref w0), .val (.int (0 : Int32)), .val (.int (0 : Int32)), .val (.int (0 : Int32)), .val (.ref w0)] [])) t
              refine XS.iconst X477.here hx rfl (hb hby at_155) ?_
              show Steps p.tables e below (T477.setTop (mkF m 156 #[.val (.int p1), .val (.int (1 : Int32)), .val (.int (1 : Int32)), .val (.int (0 : Int32)), .val (.int (0 : Int32)), .val (.ref b455), .val (.ref w0), .val (.int (0 : Int32)), .val (.int (0 : Int32)), .val (.int (0 : Int32)), .val (.ref w0)] [(.int (1 : Int32))])) t
              refine XS.goto X477.here hx rfl (pc0 := 156) (pc' := 160) rfl (hb hby at_156) (by decide) (by decide) ?_
              exact k)
          have hnr : Value.int (nar .boolean (1 : Int32)) = (.int (1 : Int32)) := by rfl
          obtain ⟨fs, hr, hrun, hended, hW, hsame⟩ := X477.leave (v := some (.int (1 : Int32))) (fun h => by rw [Bd.returns] at h; cases h)
          refine ⟨_, _, pre481 _ (retN X477 hx (t := .boolean) Bd.returns (by simp) (hb hby at_160) (hnr ▸ hr)), hrun, hended, _, _, rfl, ?_, ⟨_, rfl⟩, hW, hsame.mono (by decide) (by decide)⟩
          show QL Z p1 w0 w1 w2 h0 n0 _ T477.heap _
          rw [e477]
          exact ⟨rfl, N463⟩
set_option maxRecDepth 65536 in
set_option maxHeartbeats 40000000 in
theorem comes_1 {Post : Tables → Env → Array Value → State → Outcome → State → Prop} (hpost : ∀ tb e args s v u, (limb_1_1.after args s (.returned v) u = true ∧ limb_1_2.after args s (.returned v) u = true ∧ True) → FrameEnd s (.returned v) u (Jvm.fieldLocs frame_1_writes args s ++ Jvm.arrayLocs frame_1_arrays args s ++ Jvm.staticLocs frame_1_statics s) 16 128 → Post tb e args s (.returned v) u) :
    ArmFor flags0 classFile x code maxLocals ret World_1 tables_1 room_1 Calls_1 rest_1 Pre_1 Post := by
  intro l hfl _ _ p e ha hc hk s m args below hf hA hF happ hP
  obtain ⟨hcalls, hrest, hpre⟩ := hP
  obtain ⟨-, -, -, hnamed, -, -, -, hat⟩ := (Spec.applies_iff hf).mp happ
  obtain ⟨hg, hn⟩ := and_e (Cond.before_iff.mp (show (Jvm.Cond.and given_1 narrow_1).before args s = true from hpre))
  obtain ⟨hg0, hg1⟩ := and_e hg
  obtain ⟨w0, rfl⟩ : ∃ w0 : Value, args = #[w0] := by
    have hs : args.size = 1 := by simpa [Cond.value, given_1] using hg0
    obtain ⟨L⟩ := args
    match L, hs with
    | [w0], _ => exact ⟨w0, rfl⟩
  have hw := fun d (hd : d ∈ tables_1) => atoms_spec (ws := Jvm.Cond.code x code maxLocals ret :: tables_1) hat d (List.mem_cons_of_mem _ hd)
  have hfit : Fit s := fun {y c} hc i hi => by
    obtain ⟨ha, rfl⟩ := Array.getElem?_eq_some_iff.mp hc
    have q := List.all_eq_true.mp ((Array.all_eq_true_iff_forall_mem.mp hF) _ (Array.getElem_mem ha)) i (List.mem_range.mpr hi)
    simpa [Array.getElem?_eq_getElem hi] using q
  obtain ⟨x0, ei0⟩ := is_v hg1
  obtain rfl : w0 = (.int x0) := Option.some.inj ei0
  obtain ⟨nr0, nr1⟩ := and_e hn
  obtain ⟨nr2, nr3⟩ := and_e nr1
  obtain ⟨a0, ev0⟩ := exa_v nr0
  have E0 : Exa s s.heap a0 "com/example/picketline/picketline/protocol/Heading" := Exa.start ev0 nr0
  have S0 : Sta s s.heap "com/example/picketline/picketline/protocol/Heading" "STILL" "Lcom/example/picketline/picketline/protocol/Heading;" (.ref a0) := Sta.start ev0 (Or.inr ⟨(hw _ (List.mem_of_getElem? (i := 28) rfl)), (hw _ (List.mem_of_getElem? (i := 29) rfl))⟩)
  obtain ⟨a1, ev1⟩ := exa_v nr2
  have E1 : Exa s s.heap a1 "com/example/picketline/picketline/protocol/Heading" := Exa.start ev1 nr2
  have S1 : Sta s s.heap "com/example/picketline/picketline/protocol/Heading" "LEFT" "Lcom/example/picketline/picketline/protocol/Heading;" (.ref a1) := Sta.start ev1 (Or.inr ⟨(hw _ (List.mem_of_getElem? (i := 28) rfl)), (hw _ (List.mem_of_getElem? (i := 32) rfl))⟩)
  obtain ⟨a2, ev2⟩ := exa_v nr3
  have E2 : Exa s s.heap a2 "com/example/picketline/picketline/protocol/Heading" := Exa.start ev2 nr3
  have S2 : Sta s s.heap "com/example/picketline/picketline/protocol/Heading" "RIGHT" "Lcom/example/picketline/picketline/protocol/Heading;" (.ref a2) := Sta.start ev2 (Or.inr ⟨(hw _ (List.mem_of_getElem? (i := 28) rfl)), (hw _ (List.mem_of_getElem? (i := 35) rfl))⟩)
  obtain ⟨n, o, h1, h2, h3, _, L, rfl, ⟨rfl, N⟩, hq⟩ := rmL l s _ hw tables_1 x0 a0 a1 a2 s.heap s.heap.size (Nat.le_refl _) (Old.start s) S0 S1 S2 p e ha hc hk s m _ below hf ((Spec.applies_iff_loose hf).mp happ).1 ⟨rfl, State.Warmed39.refl s, rfl⟩ trivial
  refine ⟨n, _, h1, h2, h3, hpost _ _ _ _ _ _ ⟨Cond.after_iff.mpr rfl, Cond.after_iff.mpr (eq_i res_at (Term.int_eval (1)) rfl), trivial⟩ ⟨hq.1, hq.2.1, (hq.2.2.sift fun y hy => Or.inr (N y hy)).mono (by decide) (by decide)⟩⟩
theorem main_1_1 : Claimed_1_1 := comes_1 fun _ _ _ _ _ _ h hF => ⟨h.1, hF⟩
theorem main_1_2 : Claimed_1_2 := comes_1 fun _ _ _ _ _ _ h hF => ⟨h.2.1, hF⟩
end Jvm.Pilot.@@N@@
namespace Jvm.Pilot.@@N@@
open Jvm Jvm.ClassFile Sem Op Lib Jvm.Free Jvm.Stand Jvm.Pilot.@@N@@.Jvm.D
/-! MADE BY PROGRAM (witnessworld.py) out of the Statement's table words and the real class files: 12 classes; the members and pool entries that the words name. The judged class is class 1, her method 1. -/
namespace start1
open Jvm.ClassFile
def u (s : String) : CpInfo := .utf8 (stringToUtf16 s)
/-- a pool by its gaps: so many unusable entries, then the entry; so many at the end -/
def gap : Nat → List CpInfo → List CpInfo
  | 0, r => r
  | n + 1, r => .unusable :: gap n r
def poolList (es : List (Nat × CpInfo)) (last : Nat) : List CpInfo := es.foldr (fun e r => gap e.1 (e.2 :: r)) (gap last [])
def pool (es : List (Nat × CpInfo)) (last : Nat) : Array CpInfo := ⟨poolList es last⟩
def fileOf (pool : Array CpInfo) (this : Nat) (attrs : Array Attribute := #[]) (ms : Array MethodInfo := #[]) (fl : Nat := 33) (sup : Nat := 0) (ifs : Array Nat := #[]) (fds : Array FieldInfo := #[]) : ClassFile where
  minorVersion := 0
  majorVersion := 65
  constantPool := pool
  accessFlags := fl
  thisClass := this
  superClass := sup
  interfaces := ifs
  fields := fds
  methods := ms
  attributes := attrs
def plain (name : String) (sup : Option ClassId) : Class where
  name := name
  kind := .ordinary
  loader := none
  accessFlags := 33
  super := sup
  interfaces := #[]
  cf := none
  fields := #[]
  methods := #[]
  instanceTypes := #[]
  staticTypes := #[]
  resolved := #[]
  callSites := []
  init := .initialized
  statics := none
  mirror := none

def pool0 : Array CpInfo := pool [(5, u "<init>"), (0, u "()V"), (1, .class_ 10), (1, u "java/lang/Object")] 113

def k0c0 : Code := { maxStack := 0, maxLocals := 1, code := object_method_1_code, exceptionTable := #[], attributes := #[] }
def k0m0 : Method := { name := "<init>", desc := "()V", sig := { parameters := [], returnType := none }, accessFlags := 1, code := some k0c0 }
/-- java/lang/Object -/
def k0 : Class := { plain "java/lang/Object" none with
  accessFlags := 33
  interfaces := #[]
  cf := some (fileOf pool0 8 #[] #[{ accessFlags := 1, nameIndex := 5, descriptorIndex := 6, attributes := #[] }] 33 0 #[] #[])
  fields := #[]
  methods := #[k0m0]
  instanceTypes := #[]
  staticTypes := #[]
  resolved := Array.replicate 124 none
  statics := none }

def pool1 : Array CpInfo := pool [(2, .class_ 4), (1, u "java/lang/Object"), (0, u "<init>"), (0, u "()V"), (0, .class_ 8), (0, u "com/example/picketline/picketline/protocol/Surroundings"), (0, .methodref 7 10), (0, .nameAndType 5 11), (0, u "(ZZZZ)V"), (0, .methodref 7 13), (0, .nameAndType 14 15), (0, u "towardGap"), (0, u "()Lcom/example/picketline/picketline/protocol/Heading;"), (0, .fieldref 17 18), (0, .class_ 19), (0, .nameAndType 20 21), (0, u "com/example/picketline/picketline/protocol/Heading"), (0, u "RIGHT"), (0, u "Lcom/example/picketline/picketline/protocol/Heading;"), (0, .fieldref 17 23), (0, .nameAndType 24 21), (0, u "LEFT"), (0, .fieldref 17 26), (0, .nameAndType 27 21), (0, u "STILL"), (0, .class_ 29), (0, u "com/example/picketline/picketline/protocol/SurroundingsTowardGapPinLaw"), (2, u "law"), (0, u "(I)Z")] 3

def k1m0 : Method := { name := "<init>", desc := "()V", sig := { parameters := [], returnType := none }, accessFlags := 1, code := none }
def k1c1 : Code := { maxStack := 6, maxLocals := 11, code := code, exceptionTable := #[], attributes := #[] }
def k1m1 : Method := { name := "law", desc := "(I)Z", sig := { parameters := [.int], returnType := some .boolean }, accessFlags := 9, code := some k1c1 }
/-- com/example/picketline/picketline/protocol/SurroundingsTowardGapPinLaw -/
def k1 : Class := { plain "com/example/picketline/picketline/protocol/SurroundingsTowardGapPinLaw" (some 0) with
  accessFlags := 49
  interfaces := #[]
  cf := some (fileOf pool1 28 #[] #[{ accessFlags := 1, nameIndex := 5, descriptorIndex := 6, attributes := #[] }, { accessFlags := 9, nameIndex := 32, descriptorIndex := 33, attributes := #[] }] 49 2 #[] #[])
  fields := #[]
  methods := #[k1m0, k1m1]
  instanceTypes := #[]
  staticTypes := #[]
  resolved := Array.replicate 37 none
  statics := none }

def pool2 : Array CpInfo := pool [(1, .methodref 2 3), (0, .class_ 4), (0, .nameAndType 5 6), (0, u "java/lang/Object"), (0, u "<init>"), (0, u "()V"), (0, .class_ 8), (0, u "java/lang/Record")] 13

def k2c0 : Code := { maxStack := 1, maxLocals := 1, code := jdk_30_method_1_code, exceptionTable := #[], attributes := #[] }
def k2m0 : Method := { name := "<init>", desc := "()V", sig := { parameters := [], returnType := none }, accessFlags := 4, code := some k2c0 }
/-- java/lang/Record -/
def k2 : Class := { plain "java/lang/Record" (some 0) with
  accessFlags := 1057
  interfaces := #[]
  cf := some (fileOf pool2 7 #[] #[{ accessFlags := 4, nameIndex := 5, descriptorIndex := 6, attributes := #[] }] 1057 2 #[] #[])
  fields := #[]
  methods := #[k2m0]
  instanceTypes := #[]
  staticTypes := #[]
  resolved := Array.replicate 22 none
  statics := none }

def pool3 : Array CpInfo := pool [(1, .methodref 2 3), (0, .class_ 4), (0, .nameAndType 5 6), (0, u "java/lang/Record"), (0, u "<init>"), (0, u "()V"), (0, .fieldref 8 9), (0, .class_ 10), (0, .nameAndType 11 12), (0, u "com/example/picketline/picketline/protocol/Surroundings"), (0, u "seesLeft"), (0, u "Z"), (0, .fieldref 8 14), (0, .nameAndType 15 12), (0, u "seesRight"), (0, .fieldref 8 17), (0, .nameAndType 18 12), (0, u "gapLeft"), (0, .fieldref 8 20), (0, .nameAndType 21 12), (0, u "gapRight"), (0, .fieldref 23 24), (0, .class_ 25), (0, .nameAndType 26 27), (0, u "com/example/picketline/picketline/protocol/Heading"), (0, u "STILL"), (0, u "Lcom/example/picketline/picketline/protocol/Heading;"), (0, .fieldref 23 29), (0, .nameAndType 30 27), (0, u "RIGHT"), (0, .fieldref 23 32), (0, .nameAndType 33 27), (0, u "LEFT"), (12, u "(ZZZZ)V"), (3, u "towardGap"), (0, u "()Lcom/example/picketline/picketline/protocol/Heading;")] 28

def k3c0 : Code := { maxStack := 2, maxLocals := 5, code := prog_40_method_1_code, exceptionTable := #[], attributes := #[] }
def k3m0 : Method := { name := "<init>", desc := "(ZZZZ)V", sig := { parameters := [.boolean, .boolean, .boolean, .boolean], returnType := none }, accessFlags := 0, code := some k3c0 }
def k3c1 : Code := { maxStack := 1, maxLocals := 2, code := prog_40_method_2_code, exceptionTable := #[], attributes := #[] }
def k3m1 : Method := { name := "towardGap", desc := "()Lcom/example/picketline/picketline/protocol/Heading;", sig := { parameters := [], returnType := some (.object "com/example/picketline/picketline/protocol/Heading") }, accessFlags := 0, code := some k3c1 }
/-- com/example/picketline/picketline/protocol/Surroundings -/
def k3 : Class := { plain "com/example/picketline/picketline/protocol/Surroundings" (some 2) with
  accessFlags := 48
  interfaces := #[]
  cf := some (fileOf pool3 8 #[] #[{ accessFlags := 0, nameIndex := 5, descriptorIndex := 46, attributes := #[] }, { accessFlags := 0, nameIndex := 50, descriptorIndex := 51, attributes := #[] }] 48 2 #[] #[{ accessFlags := 18, nameIndex := 11, descriptorIndex := 12, attributes := #[] }, { accessFlags := 18, nameIndex := 15, descriptorIndex := 12, attributes := #[] }, { accessFlags := 18, nameIndex := 18, descriptorIndex := 12, attributes := #[] }, { accessFlags := 18, nameIndex := 21, descriptorIndex := 12, attributes := #[] }])
  fields := #[{ name := "seesLeft", type := .boolean, accessFlags := 18, slot := 0, constantValue := 0 }, { name := "seesRight", type := .boolean, accessFlags := 18, slot := 1, constantValue := 0 }, { name := "gapLeft", type := .boolean, accessFlags := 18, slot := 2, constantValue := 0 }, { name := "gapRight", type := .boolean, accessFlags := 18, slot := 3, constantValue := 0 }]
  methods := #[k3m0, k3m1]
  instanceTypes := #[.boolean, .boolean, .boolean, .boolean]
  staticTypes := #[]
  resolved := Array.replicate 80 none
  statics := none }

def pool4 : Array CpInfo := pool [(1, .class_ 2), (0, u "java/lang/constant/Constable"), (0, .class_ 4), (0, u "java/lang/Object")] 6

/-- java/lang/constant/Constable -/
def k4 : Class := { plain "java/lang/constant/Constable" (some 0) with
  accessFlags := 1537
  interfaces := #[]
  cf := some (fileOf pool4 1 #[] #[] 1537 3 #[] #[])
  fields := #[]
  methods := #[]
  instanceTypes := #[]
  staticTypes := #[]
  resolved := Array.replicate 11 none
  statics := none }

def pool5 : Array CpInfo := pool [(1, .class_ 2), (0, u "java/lang/Comparable"), (0, .class_ 4), (0, u "java/lang/Object")] 7

/-- java/lang/Comparable -/
def k5 : Class := { plain "java/lang/Comparable" (some 0) with
  accessFlags := 1537
  interfaces := #[]
  cf := some (fileOf pool5 1 #[] #[] 1537 3 #[] #[])
  fields := #[]
  methods := #[]
  instanceTypes := #[]
  staticTypes := #[]
  resolved := Array.replicate 12 none
  statics := none }

def pool6 : Array CpInfo := pool [(1, .class_ 2), (0, u "java/io/Serializable"), (0, .class_ 4), (0, u "java/lang/Object")] 2

/-- java/io/Serializable -/
def k6 : Class := { plain "java/io/Serializable" (some 0) with
  accessFlags := 1537
  interfaces := #[]
  cf := some (fileOf pool6 1 #[] #[] 1537 3 #[] #[])
  fields := #[]
  methods := #[]
  instanceTypes := #[]
  staticTypes := #[]
  resolved := Array.replicate 7 none
  statics := none }

def pool7 : Array CpInfo := pool [(2, .class_ 4), (1, u "java/lang/Enum"), (0, u "name"), (0, u "Ljava/lang/String;"), (2, u "ordinal"), (0, u "I"), (1, .class_ 14), (1, u "java/lang/Object"), (4, u "hash"), (86, .class_ 108), (1, u "java/lang/Enum$EnumDesc"), (2, .class_ 112), (0, u "java/lang/constant/Constable"), (0, .class_ 114), (0, u "java/lang/Comparable"), (0, .class_ 116), (0, u "java/io/Serializable")] 87

/-- java/lang/Enum -/
def k7 : Class := { plain "java/lang/Enum" (some 0) with
  accessFlags := 1057
  interfaces := #[4, 5, 6]
  cf := some (fileOf pool7 2 #[.nestMembers #[106]] #[] 1057 12 #[111, 113, 115] #[{ accessFlags := 18, nameIndex := 5, descriptorIndex := 6, attributes := #[] }, { accessFlags := 18, nameIndex := 9, descriptorIndex := 10, attributes := #[] }, { accessFlags := 2, nameIndex := 19, descriptorIndex := 10, attributes := #[] }])
  fields := #[{ name := "name", type := (.object "java/lang/String"), accessFlags := 18, slot := 0, constantValue := 0 }, { name := "ordinal", type := .int, accessFlags := 18, slot := 1, constantValue := 0 }, { name := "hash", type := .int, accessFlags := 2, slot := 2, constantValue := 0 }]
  methods := #[]
  instanceTypes := #[(.object "java/lang/String"), .int, .int]
  staticTypes := #[]
  resolved := Array.replicate 204 none
  statics := none }

def pool8 : Array CpInfo := pool [(1, .class_ 2), (0, u "com/example/picketline/picketline/protocol/Heading"), (2, u "STILL"), (0, u "Lcom/example/picketline/picketline/protocol/Heading;"), (2, u "LEFT"), (2, u "RIGHT"), (2, u "$VALUES"), (0, u "[Lcom/example/picketline/picketline/protocol/Heading;"), (6, .class_ 25), (1, u "java/lang/Enum"), (8, u "offset"), (0, u "I")] 23

/-- com/example/picketline/picketline/protocol/Heading -/
def k8 : Class := { plain "com/example/picketline/picketline/protocol/Heading" (some 7) with
  accessFlags := 16433
  interfaces := #[]
  cf := some (fileOf pool8 1 #[] #[] 16433 23 #[] #[{ accessFlags := 16409, nameIndex := 5, descriptorIndex := 6, attributes := #[] }, { accessFlags := 16409, nameIndex := 9, descriptorIndex := 6, attributes := #[] }, { accessFlags := 16409, nameIndex := 12, descriptorIndex := 6, attributes := #[] }, { accessFlags := 18, nameIndex := 34, descriptorIndex := 35, attributes := #[] }, { accessFlags := 4122, nameIndex := 15, descriptorIndex := 16, attributes := #[] }])
  fields := #[{ name := "STILL", type := (.object "com/example/picketline/picketline/protocol/Heading"), accessFlags := 16409, slot := 0, constantValue := 0 }, { name := "LEFT", type := (.object "com/example/picketline/picketline/protocol/Heading"), accessFlags := 16409, slot := 1, constantValue := 0 }, { name := "RIGHT", type := (.object "com/example/picketline/picketline/protocol/Heading"), accessFlags := 16409, slot := 2, constantValue := 0 }, { name := "offset", type := .int, accessFlags := 18, slot := 3, constantValue := 0 }, { name := "$VALUES", type := (.array (.object "com/example/picketline/picketline/protocol/Heading")), accessFlags := 4122, slot := 3, constantValue := 0 }]
  methods := #[]
  instanceTypes := #[(.object "java/lang/String"), .int, .int, .int]
  staticTypes := #[(.object "com/example/picketline/picketline/protocol/Heading"), (.object "com/example/picketline/picketline/protocol/Heading"), (.object "com/example/picketline/picketline/protocol/Heading"), (.array (.object "com/example/picketline/picketline/protocol/Heading"))]
  resolved := Array.replicate 59 none
  statics := some 0 }

def pool9 : Array CpInfo := pool [(1, u "java/lang/Cloneable"), (0, .class_ 1), (0, u "java/lang/Object"), (0, .class_ 3)] 3

/-- java/lang/Cloneable -/
def k9 : Class := { plain "java/lang/Cloneable" (some 0) with
  accessFlags := 1537
  interfaces := #[]
  cf := some (fileOf pool9 2 #[] #[] 1537 4 #[] #[])
  fields := #[]
  methods := #[]
  instanceTypes := #[]
  staticTypes := #[]
  resolved := Array.replicate 8 none
  statics := none }

/-- the primitive byte -/
def k10 : Class := { plain "byte" none with kind := .primitive 'B', accessFlags := 0x411 }
/-- [B -/
def k11 : Class := { plain "[B" (some 0) with kind := .array 10 .byte, interfaces := #[9, 6], accessFlags := 1041 }

def heap : Heap := #[{ cls := 8, slots := #[.ref 1, .ref 2, .ref 3, .null], vm := .statics 8 },
  { cls := 8, slots := #[.null, .int 0, .int 0, .int 0], vm := .none },
  { cls := 8, slots := #[.null, .int 1, .int 0, .int 0], vm := .none },
  { cls := 8, slots := #[.null, .int 2, .int 0, .int 0], vm := .none }]
def classes : Array Class := #[k0, k1, k2, k3, k4, k5, k6, k7, k8, k9, k10, k11]
def interned : List (Array UInt16 × Addr) := []
def slotsUsed : Nat := 16
def theMethod : MethodId := ⟨1, 1⟩
def args0 : Array Value := #[.int 5]
def aboutOver (below : List Frame) : State where
  vm := { classes := classes, interned := interned.toArray }
  heap := heap
  slotsUsed := slotsUsed
  threads := #[{ frames := .invoking theMethod args0 :: below }]
def below0 : List Frame := [.native { method := ⟨0, 0⟩, args := #[] }]
def about1 : State := aboutOver below0
def p0 : Program := .bare "" "" ""
def e0 : Env := launch0.env 0 0 0
theorem w_frames : about1.frames = Frame.invoking theMethod args0 :: below0 := rfl
set_option maxRecDepth 65536 in
theorem w_args : argsFit about1.vm theMethod args0 = true := by decide +kernel
set_option maxRecDepth 65536 in
theorem w_heap : heapFits about1 = true := by decide +kernel
set_option maxRecDepth 65536 in
theorem w_runnable : about1.curStatus? = some .runnable := by decide +kernel
set_option maxRecDepth 65536 in
theorem w_alone : about1.alone = true := by decide +kernel
set_option maxRecDepth 65536 in
theorem w_named : about1.methodNamed? x = some theMethod := by decide +kernel
set_option maxRecDepth 65536 in
theorem w_hears : about1.hears theMethod below0 = true := by decide +kernel
set_option maxRecDepth 65536 in
theorem w_ripe : about1.ripe theMethod args0 below0 = true := by decide +kernel
theorem w_running : about1.status = .running := rfl
set_option maxRecDepth 65536 in
theorem w_room : about1.hasRoom e0.platform room_1 = true :=
  launch0.hasRoom_least _ room_1 (by decide +kernel) (by decide +kernel) (by decide +kernel) (by decide +kernel) (by decide +kernel) (by decide +kernel)
theorem allAtoms_all (ts : List Jvm.Cond) (a : Array Jvm.Value) (st : Jvm.State) : (allAtoms ts).before a st = ts.all (fun c => c.before a st) := by
  induction ts with
  | nil => rfl
  | cons c t ih =>
    show (Jvm.Cond.and c (allAtoms t)).before a st = _
    rw [Jvm.Cond.before_and, ih, List.all_cons]
def words1 : List Jvm.Cond := Jvm.Cond.code x code maxLocals ret :: tables_1
/-- a 'code' word, met by the world's own term for the bytes: nothing is compared byte by byte -/
theorem code_word {y : MethodName} {bytes : ByteArray} {mx : Nat} {rt : Option FieldType} {a : Array Value} {s : State} {m : MethodId} {meth : Method} {c : Code} (h1 : s.methodNamed? y = some m) (h2 : s.vm.method? m = some meth) (h3 : meth.code = some c) (h4 : c.code = bytes)
    (h5 : (c.maxLocals == mx && c.exceptionTable.isEmpty && decide (c.maxStack ≤ mostOperands) && decide (meth.sig.returnType = rt) && !meth.locks && decide (parseMethodDescriptor y.desc = some meth.sig)) = true) : (Jvm.Cond.code y bytes mx rt).before a s = true := by
  simp only [Bool.and_eq_true, beq_iff_eq, Bool.not_eq_true', decide_eq_true_eq] at h5
  obtain ⟨⟨⟨⟨⟨g1, g2⟩, g3⟩, g4⟩, g5⟩, g6⟩ := h5
  simp [Cond.before, Cond.holds, Cond.value, h1, h2, h3, h4, g1, g2, g3, g4, g5, g6]
def isCode : Jvm.Cond → Bool
  | .code _ _ _ _ => true
  | _ => false
theorem all_split {L : List Jvm.Cond} {P : Jvm.Cond → Bool} (h1 : L.all (fun c => isCode c || P c) = true) (h2 : ∀ c ∈ L.filter isCode, P c = true) : L.all P = true := by
  refine List.all_eq_true.mpr fun c hc => ?_
  have h := List.all_eq_true.mp h1 c hc
  rcases Bool.eq_false_or_eq_true (isCode c) with hi | hi
  · exact h2 c (List.mem_filter.mpr ⟨hc, hi⟩)
  · simpa [hi] using h
set_option maxRecDepth 65536 in
theorem w_c0 : (Jvm.Cond.code x code maxLocals ret).before args0 about1 = true := code_word (m := ⟨1, 1⟩) (meth := k1m1) (c := k1c1) (by decide +kernel) rfl rfl rfl (by decide +kernel)
set_option maxRecDepth 65536 in
theorem w_c1 : (Jvm.Cond.code ({ cls := "com/example/picketline/picketline/protocol/Surroundings", name := "<init>", desc := "(ZZZZ)V" } : Jvm.MethodName) prog_40_method_1_code (5 : Nat) (Option.none : Option Jvm.ClassFile.FieldType)).before args0 about1 = true := code_word (m := ⟨3, 0⟩) (meth := k3m0) (c := k3c0) (by decide +kernel) rfl rfl rfl (by decide +kernel)
set_option maxRecDepth 65536 in
theorem w_c2 : (Jvm.Cond.code ({ cls := "java/lang/Record", name := "<init>", desc := "()V" } : Jvm.MethodName) jdk_30_method_1_code (1 : Nat) (Option.none : Option Jvm.ClassFile.FieldType)).before args0 about1 = true := code_word (m := ⟨2, 0⟩) (meth := k2m0) (c := k2c0) (by decide +kernel) rfl rfl rfl (by decide +kernel)
set_option maxRecDepth 65536 in
theorem w_c3 : (Jvm.Cond.code ({ cls := "java/lang/Object", name := "<init>", desc := "()V" } : Jvm.MethodName) object_method_1_code (1 : Nat) (Option.none : Option Jvm.ClassFile.FieldType)).before args0 about1 = true := code_word (m := ⟨0, 0⟩) (meth := k0m0) (c := k0c0) (by decide +kernel) rfl rfl rfl (by decide +kernel)
set_option maxRecDepth 65536 in
theorem w_c4 : (Jvm.Cond.code ({ cls := "com/example/picketline/picketline/protocol/Surroundings", name := "towardGap", desc := "()Lcom/example/picketline/picketline/protocol/Heading;" } : Jvm.MethodName) prog_40_method_2_code (2 : Nat) (Option.some (Jvm.ClassFile.FieldType.object "com/example/picketline/picketline/protocol/Heading"))).before args0 about1 = true := code_word (m := ⟨3, 1⟩) (meth := k3m1) (c := k3c1) (by decide +kernel) rfl rfl rfl (by decide +kernel)
def codes1 : List Jvm.Cond := [Jvm.Cond.code x code maxLocals ret, Jvm.Cond.code ({ cls := "com/example/picketline/picketline/protocol/Surroundings", name := "<init>", desc := "(ZZZZ)V" } : Jvm.MethodName) prog_40_method_1_code (5 : Nat) (Option.none : Option Jvm.ClassFile.FieldType), Jvm.Cond.code ({ cls := "java/lang/Record", name := "<init>", desc := "()V" } : Jvm.MethodName) jdk_30_method_1_code (1 : Nat) (Option.none : Option Jvm.ClassFile.FieldType), Jvm.Cond.code ({ cls := "java/lang/Object", name := "<init>", desc := "()V" } : Jvm.MethodName) object_method_1_code (1 : Nat) (Option.none : Option Jvm.ClassFile.FieldType), Jvm.Cond.code ({ cls := "com/example/picketline/picketline/protocol/Surroundings", name := "towardGap", desc := "()Lcom/example/picketline/picketline/protocol/Heading;" } : Jvm.MethodName) prog_40_method_2_code (2 : Nat) (Option.some (Jvm.ClassFile.FieldType.object "com/example/picketline/picketline/protocol/Heading"))]
set_option maxRecDepth 65536 in
theorem codes_eq : words1.filter isCode = codes1 := rfl
theorem w_codes : ∀ c ∈ words1.filter isCode, c.before args0 about1 = true := by
  rw [codes_eq]
  intro c hc
  simp only [codes1, List.mem_cons, List.not_mem_nil, or_false] at hc
  rcases hc with rfl | rfl | rfl | rfl | rfl
  · exact w_c0
  · exact w_c1
  · exact w_c2
  · exact w_c3
  · exact w_c4
set_option maxRecDepth 65536 in
theorem w_t1 : (words1.take 24).all (fun c => isCode c || c.before args0 about1) = true := by decide +kernel
set_option maxRecDepth 65536 in
theorem w_t2 : (words1.drop 24).all (fun c => isCode c || c.before args0 about1) = true := by decide +kernel
theorem w_tables : (allAtoms (Jvm.Cond.code x code maxLocals ret :: tables_1)).before args0 about1 = true := by
  rw [allAtoms_all]
  show words1.all (fun c => c.before args0 about1) = true
  refine all_split ?_ w_codes
  rw [← List.take_append_drop 24 words1, List.all_append, w_t1, w_t2]
  rfl
set_option maxRecDepth 65536 in
theorem w_case : (Jvm.Cond.and given_1 narrow_1).before args0 about1 = true := by decide +kernel
theorem w_applies : (headSpec (Jvm.Cond.code x code maxLocals ret :: tables_1) room_1).applies x e0.platform about1 = true :=
  (Spec.applies_iff w_frames).mpr ⟨w_running, w_runnable, w_alone, w_named, w_hears, w_ripe, w_room, w_tables⟩
theorem atStart : AtStart classFile x code maxLocals ret World_1 tables_1 room_1 Calls_1 rest_1 Pre_1 launch0 p0 e0 about1 theMethod args0 below0 :=
  ⟨lists_1, trivial, launch0.admits_env _ _ _, launch0.least_env, fairChoices_fair.cas, fairChoices_fair.clock, w_frames, w_args, w_heap, w_applies, trivial, trivial, w_case⟩
end start1
theorem witness_1 : WitnessClaimed_1 := ⟨start1.p0, start1.e0, start1.about1, start1.theMethod, start1.args0, start1.below0, start1.atStart⟩
end Jvm.Pilot.@@N@@
