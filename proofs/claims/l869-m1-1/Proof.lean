import JvmDerived
import JvmDerived.Pilot.@@N@@Statement
import JvmDerived.Pilot.@@N@@Code
set_option linter.unusedVariables false
set_option linter.unusedSimpArgs false

namespace Jvm.Pilot.@@N@@
open Jvm Jvm.ClassFile Sem Op Lib Jvm.Free Jvm.Stand Jvm.LawKit Jvm.RoadKit Bundle Jvm.Pilot.@@N@@.Jvm.D
/-- from the frame g' at S' the run comes to the frame g at S -/
abbrev Go (p : Program) (e : Env) (below : List Frame) (S : State) (g : JFrame) (S' : State) (g' : JFrame) : Prop := ∀ t, Steps p.tables e below (S.setTop g) t → Steps p.tables e below (S'.setTop g') t

theorem own_fld {args : Array Value} {s : State} {t : Term} {x : Addr} {C n d : String} {k : Int32} (ht : t.eval args s none [] s = some (.ref x)) (h : (Jvm.Cond.eq (.field t C n d) (.int k)).value args s none s [] = some true) : Fld s s.heap x C n d (.int k) := by
  obtain ⟨y, z, h1, h2, h3, -⟩ := cmp_v (Or.inl h)
  have h2' : z = .int k := by simpa [Term.eval] using h2.symm
  subst h2'
  obtain ⟨u, rfl⟩ : ∃ u, y = .int u := by cases y <;> simp [Kin, Value.isRef] at h3 ⊢
  have h4 : u = k := by simpa [Jvm.Cond.value, h1, h2] using h
  subst h4
  exact Fld.start ((fld_at ht).symm.trans h1)

theorem own_root {Z : State} {a0 : Array Value} {O K : String} {n : Nat} (w : (Jvm.Cond.noSuperclass O).before a0 Z = true) (wk : (Jvm.Cond.instantiable K n).before a0 Z = true) (hn : O ≠ K) : NS Z O K := by
  obtain ⟨c, k, h1, h2, h3, -, -⟩ := Cond.noSuperclass_spec w
  obtain ⟨t, kt, g1, -⟩ := Cond.instantiable_spec wk
  have ne := ids_ne h1 g1 hn
  refine ⟨c, t, h1, g1, fun fuel => ?_⟩
  cases fuel with
  | zero => rfl
  | succ f => simp [Vm.isSubclassAux, ne, h2, h3]
theorem own_no {Z : State} {a0 : Array Value} {C S K : String} {n : Nat} (w : (Jvm.Cond.superclass C S).before a0 Z = true) (wk : (Jvm.Cond.instantiable K n).before a0 Z = true) (n : NS Z C K) (hn : C ≠ K) : ∃ c t, Z.vm.findClass C = some c ∧ Z.vm.findClass K = some t ∧ Z.vm.assignable c t = false := by
  obtain ⟨c, t, h0, g0, n3⟩ := n
  obtain ⟨p, k, kp, h1, h2, h3, h4, h5, -, h7⟩ := Cond.superclass_spec h0 w
  obtain ⟨t', k', g1, g2, g5, g6, -⟩ := Cond.instantiable_spec wk
  cases g0.symm.trans g1
  have g7 : k'.isInterface = false := by cases hq : k'.isInterface <;> simp [hq] at g6 ⊢
  have ne := ids_ne h0 g0 hn
  refine ⟨c, t, h0, g0, ?_⟩
  show Z.vm.assignableAux (255 + 1) c t = false
  simp [Vm.assignableAux, ne, h2, g2, h5, g5, g7, Vm.isSubclass, n3]
def maxF (a b : Int32) : Int32 := if a < b then b else a
theorem dM_0 : decode jdk_29_method_65_code 0 = .ok (.iload_n 0, 1) := by decide +kernel
theorem dM_1 : decode jdk_29_method_65_code 1 = .ok (.iload_n 1, 1) := by decide +kernel
theorem dM_2 : decode jdk_29_method_65_code 2 = .ok (.if_icmp .lt 7, 3) := by decide +kernel
theorem dM_5 : decode jdk_29_method_65_code 5 = .ok (.iload_n 0, 1) := by decide +kernel
theorem dM_6 : decode jdk_29_method_65_code 6 = .ok (.goto 4, 3) := by decide +kernel
theorem dM_9 : decode jdk_29_method_65_code 9 = .ok (.iload_n 1, 1) := by decide +kernel
theorem dM_10 : decode jdk_29_method_65_code 10 = .ok (.ireturn, 1) := by decide +kernel
theorem efM (m : MethodId) (p1 : Int32) (p2 : Int32) : entryFrame m #[(.int p1), (.int p2)] 2 = mkF m 0 #[.val (.int p1), .val (.int p2)] [] := by first | (simp [entryFrame, mkF, argsToLocals, Value.category]; done) | rfl
def QM (Z : State) (p1 : Int32) (p2 : Int32) (r : Int32) (h0 : Heap) (n0 : Nat) (v : Option Value) (h : Heap) (L : List Loc) : Prop := v = some (.int r) ∧ Fr n0 L ∧ h = h0
set_option maxRecDepth 65536 in
set_option maxHeartbeats 40000000 in
theorem rmM (l : Launch) (Z : State) (a0 : Array Value) (hw : ∀ d ∈ tables_1, d.before a0 Z = true) (ws : List Jvm.Cond) (p1 : Int32) (p2 : Int32) (r : Int32) (h0 : Heap) (n0 : Nat) (Z0 : n0 ≤ h0.size) (hR : maxF p1 p2 = r) :
    MetFree l (⟨"java/lang/Math", "max", "(II)I"⟩ : MethodName) (head1 (Jvm.Cond.code (⟨"java/lang/Math", "max", "(II)I"⟩ : MethodName) jdk_29_method_65_code 2 (some .int) :: ws) ({ frames := 0, cells := 0, slots := 0, locals := 0 } : Room)) (fun a U => a = #[(.int p1), (.int p2)] ∧ Z.Warmed39 U.vm ∧ U.heap = h0) (fun _ _ _ _ _ => True) (fun _ U o U' => ∃ v L, o = .returned v ∧ QM Z p1 p2 r h0 n0 v U'.heap L ∧ FrameEnd U o U' L ({ frames := 0, cells := 0, slots := 0, locals := 0 } : Room).cells ({ frames := 0, cells := 0, slots := 0, locals := 0 } : Room).slots) := by
  refine MetFree.of_bodySF (Jvm.Free.JP.mathPlain rfl (by decide +kernel)) hisR ?_
  intro p e s m args below meth c s₁ Bd hml0 hP hK
  obtain ⟨rfl, hZ, hh⟩ := hP
  have hx := Bd.exec
  have hby := Bd.bytes
  have hml : c.maxLocals = 2 := hml0
  have hown : s.vm.findClass "java/lang/Math" = some m.cls := findClass_of_methodNamed Bd.named
  have hnm := (name_of_methodNamed Bd.named Bd.method).1
  have X0 : Stand p l e ({ frames := 0, cells := 0, slots := 0, locals := 0 } : Room) s m #[(.int p1), (.int p2)] below meth c s₁ [] 0 0 := Stand.of_body Bd
  have e0 : s₁.heap = h0 := by rw [← hh, Bd.state]; rfl
  have N0 := Fr.nil n0
  have pre0 : Go p e below s₁ (mkF m 0 #[.val (.int p1), .val (.int p2)] []) s₁ (entryFrame m #[(.int p1), (.int p2)] 2) := fun t k => castTop (efM m p1 p2) k
  have pre1 : Go p e below s₁ (mkF m 2 #[.val (.int p1), .val (.int p2)] [(.int p2), (.int p1)]) s₁ (entryFrame m #[(.int p1), (.int p2)] 2) := fun t k => pre0 t (by
      show Steps p.tables e below (s₁.setTop (mkF m 0 #[.val (.int p1), .val (.int p2)] [])) t
      refine XS.iloadN X0.here hx rfl (hb hby dM_0) rfl ?_
      show Steps p.tables e below (s₁.setTop (mkF m 1 #[.val (.int p1), .val (.int p2)] [(.int p1)])) t
      refine XS.iloadN X0.here hx rfl (hb hby dM_1) rfl ?_
      exact k)
  by_cases hc2 : p1 < p2
  · have pre2 : Go p e below s₁ (mkF m 9 #[.val (.int p1), .val (.int p2)] []) s₁ (entryFrame m #[(.int p1), (.int p2)] 2) := fun t k => pre1 t (XS.icmpYes X0.here hx rfl (pc0 := 2) (pc' := 9) rfl (hb hby dM_2) rfl (tlt hc2).1 (by decide) (by decide) k)
    have pre3 : Go p e below s₁ (mkF m 10 #[.val (.int p1), .val (.int p2)] [(.int p2)]) s₁ (entryFrame m #[(.int p1), (.int p2)] 2) := fun t k => pre2 t (by
        show Steps p.tables e below (s₁.setTop (mkF m 9 #[.val (.int p1), .val (.int p2)] [])) t
        refine XS.iloadN X0.here hx rfl (hb hby dM_9) rfl ?_
        exact k)
    obtain ⟨fs, hr, hrun, hended, hW, hsame⟩ := X0.leave (v := some (.int p2)) (fun h => by rw [Bd.returns] at h; cases h)
    refine ⟨_, _, pre3 _ (retOut X0 hx Bd.returns rfl (Or.inl ⟨rfl, Or.inl rfl, _, rfl⟩) (hb hby dM_10) hr), hrun, hended, _, _, rfl, ?_, ⟨_, rfl⟩, hW, hsame.mono (by decide) (by decide)⟩
    show QM Z p1 p2 r h0 n0 _ s₁.heap _
    rw [e0]
    exact ⟨by rw [← hR]; simp [maxF, hc2], N0, rfl⟩
  · have pre4 : Go p e below s₁ (mkF m 5 #[.val (.int p1), .val (.int p2)] []) s₁ (entryFrame m #[(.int p1), (.int p2)] 2) := fun t k => pre1 t (XS.icmpNo X0.here hx rfl (hb hby dM_2) rfl (flt hc2).1 k)
    have pre5 : Go p e below s₁ (mkF m 10 #[.val (.int p1), .val (.int p2)] [(.int p1)]) s₁ (entryFrame m #[(.int p1), (.int p2)] 2) := fun t k => pre4 t (by
        show Steps p.tables e below (s₁.setTop (mkF m 5 #[.val (.int p1), .val (.int p2)] [])) t
        refine XS.iloadN X0.here hx rfl (hb hby dM_5) rfl ?_
        show Steps p.tables e below (s₁.setTop (mkF m 6 #[.val (.int p1), .val (.int p2)] [(.int p1)])) t
        refine XS.goto X0.here hx rfl (pc0 := 6) (pc' := 10) rfl (hb hby dM_6) (by decide) (by decide) ?_
        exact k)
    obtain ⟨fs, hr, hrun, hended, hW, hsame⟩ := X0.leave (v := some (.int p1)) (fun h => by rw [Bd.returns] at h; cases h)
    refine ⟨_, _, pre5 _ (retOut X0 hx Bd.returns rfl (Or.inl ⟨rfl, Or.inl rfl, _, rfl⟩) (hb hby dM_10) hr), hrun, hended, _, _, rfl, ?_, ⟨_, rfl⟩, hW, hsame.mono (by decide) (by decide)⟩
    show QM Z p1 p2 r h0 n0 _ s₁.heap _
    rw [e0]
    exact ⟨by rw [← hR]; simp [maxF, hc2], N0, rfl⟩
def sideF (p : Int32) : Int32 := maxF 1 (p &&& 2147483647)
theorem own_side (p : Int32) : 0 < sideF p := by
  unfold sideF maxF; split
  · rename_i h
    have e1 : (1 : Int32).toInt = 1 := by decide
    have e0 : (0 : Int32).toInt = 0 := by decide
    simp only [Int32.lt_iff_toInt_lt, e0, e1] at h ⊢; omega
  · decide
theorem dS_0 : decode method_2_code 0 = .ok (.iconst 1, 1) := by decide +kernel
theorem dS_1 : decode method_2_code 1 = .ok (.iload_n 0, 1) := by decide +kernel
theorem dS_2 : decode method_2_code 2 = .ok (.ldc 7, 2) := by decide +kernel
theorem dS_4 : decode method_2_code 4 = .ok (.iand, 1) := by decide +kernel
theorem dS_5 : decode method_2_code 5 = .ok (.invokestatic 8, 3) := by decide +kernel
theorem dS_8 : decode method_2_code 8 = .ok (.ireturn, 1) := by decide +kernel
theorem pnS : plainName "com/example/vetter/vetter/profile/ResolutionEqualsPinLaw" = true := by first | (simp [plainName, overriddenIn]; done) | decide +kernel
theorem pdS_0 : parseMethodDescriptor "(II)I" = some ⟨[.int, .int], some .int⟩ := by decide +kernel
theorem efS (m : MethodId) (p1 : Int32) : entryFrame m #[(.int p1)] 1 = mkF m 0 #[.val (.int p1)] [] := by first | (simp [entryFrame, mkF, argsToLocals, Value.category]; done) | rfl
def QS (Z : State) (p1 : Int32) (r : Int32) (h0 : Heap) (n0 : Nat) (v : Option Value) (h : Heap) (L : List Loc) : Prop := v = some (.int r) ∧ Fr n0 L ∧ h = h0
set_option maxRecDepth 65536 in
set_option maxHeartbeats 40000000 in
theorem rmS (l : Launch) (Z : State) (a0 : Array Value) (hw : ∀ d ∈ tables_1, d.before a0 Z = true) (ws : List Jvm.Cond) (p1 : Int32) (r : Int32) (h0 : Heap) (n0 : Nat) (Z0 : n0 ≤ h0.size) (hR : sideF p1 = r) :
    MetFree l (⟨"com/example/vetter/vetter/profile/ResolutionEqualsPinLaw", "side", "(I)I"⟩ : MethodName) (head1 (Jvm.Cond.code (⟨"com/example/vetter/vetter/profile/ResolutionEqualsPinLaw", "side", "(I)I"⟩ : MethodName) method_2_code 1 (some .int) :: ws) ({ frames := 1, cells := 0, slots := 0, locals := 13 } : Room)) (fun a U => a = #[(.int p1)] ∧ Z.Warmed39 U.vm ∧ U.heap = h0) (fun _ _ _ _ _ => True) (fun _ U o U' => ∃ v L, o = .returned v ∧ QS Z p1 r h0 n0 v U'.heap L ∧ FrameEnd U o U' L ({ frames := 1, cells := 0, slots := 0, locals := 13 } : Room).cells ({ frames := 1, cells := 0, slots := 0, locals := 13 } : Room).slots) := by
  refine MetFree.of_bodySF (plainFor_of_name pnS) hisR ?_
  intro p e s m args below meth c s₁ Bd hml0 hP hK
  obtain ⟨rfl, hZ, hh⟩ := hP
  have hx := Bd.exec
  have hby := Bd.bytes
  have hml : c.maxLocals = 1 := hml0
  have hown : s.vm.findClass "com/example/vetter/vetter/profile/ResolutionEqualsPinLaw" = some m.cls := findClass_of_methodNamed Bd.named
  have hnm := (name_of_methodNamed Bd.named Bd.method).1
  have X0 : Stand p l e ({ frames := 1, cells := 0, slots := 0, locals := 13 } : Room) s m #[(.int p1)] below meth c s₁ [] 0 0 := Stand.of_body Bd
  have e0 : s₁.heap = h0 := by rw [← hh, Bd.state]; rfl
  have N0 := Fr.nil n0
  have pre0 : Go p e below s₁ (mkF m 0 #[.val (.int p1)] []) s₁ (entryFrame m #[(.int p1)] 1) := fun t k => castTop (efS m p1) k
  have pre1 : Go p e below s₁ (mkF m 5 #[.val (.int p1)] [(.int (p1 &&& (2147483647 : Int32))), (.int (1 : Int32))]) s₁ (entryFrame m #[(.int p1)] 1) := fun t k => pre0 t (by
      show Steps p.tables e below (s₁.setTop (mkF m 0 #[.val (.int p1)] [])) t
      refine XS.iconst X0.here hx rfl (hb hby dS_0) ?_
      show Steps p.tables e below (s₁.setTop (mkF m 1 #[.val (.int p1)] [(.int (1 : Int32))])) t
      refine XS.iloadN X0.here hx rfl (hb hby dS_1) rfl ?_
      show Steps p.tables e below (s₁.setTop (mkF m 2 #[.val (.int p1)] [(.int p1), (.int (1 : Int32))])) t
      refine X0.ldcInt hx hown (mvT hZ (hw _ (List.mem_of_getElem? (i := 4) rfl))) (g := (mkF m 2 #[.val (.int p1)] [(.int p1), (.int (1 : Int32))])) rfl (hb hby dS_2) _ ?_
      show Steps p.tables e below (s₁.setTop (mkF m 4 #[.val (.int p1)] [(.int (2147483647 : Int32)), (.int p1), (.int (1 : Int32))])) t
      refine XS.iand X0.here hx rfl (hb hby dS_4) rfl ?_
      exact k)
  obtain ⟨_, _, ⟨T2, L2, k2, n2⟩, -, X2, ⟨Lc2, hQ2, l2, y2, z2⟩, st2⟩ := Jvm.LawKit.callS X0 hx (y := (⟨"java/lang/Math", "max", "(II)I"⟩ : MethodName)) hown (mvT hZ (hw _ (List.mem_of_getElem? (i := 5) rfl))) (mvT hZ (hw _ (List.mem_of_getElem? (i := 6) rfl))) (mvT hZ (hw _ (List.mem_of_getElem? (i := 7) rfl))) (mvT hZ (hw _ (List.mem_of_getElem? (i := 8) rfl))) (by decide) (backOf (W := 0) (rmM l Z a0 hw [] (1 : Int32) (p1 &&& (2147483647 : Int32)) (maxF (1 : Int32) (p1 &&& (2147483647 : Int32))) h0 n0 Z0 rfl) hZ (hw _ (List.mem_of_getElem? (i := 8) rfl)) (hw _ (List.mem_of_getElem? (i := 7) rfl)) (by decide) (by decide)) (g := (mkF m 5 #[.val (.int p1)] [(.int (p1 &&& (2147483647 : Int32))), (.int (1 : Int32))])) rfl (by rw [hml]; rfl) (argsL := [(.int (1 : Int32)), (.int (p1 &&& (2147483647 : Int32)))]) (rest := []) (lenOf pdS_0 rfl) rfl (by show 2 * 0 + _ ≤ _; exact Nat.le_of_eq rfl) (hb hby dS_5) (fun _ _ => ⟨rfl, e0, (by decide : 0 + 0 ≤ _), (by decide : 0 + 0 ≤ _)⟩)
  dsimp only [Pt.U, Pt.locs, Pt.cells, Pt.slots] at X2 l2 y2 z2 st2 hQ2
  subst l2 y2 z2
  obtain ⟨rfl, N2q, hq2⟩ := hQ2
  have N2 := Fr.app N0 N2q
  have pre3 : Go p e below T2 (mkF m 8 #[.val (.int p1)] [(.int (maxF (1 : Int32) (p1 &&& (2147483647 : Int32))))]) s₁ (entryFrame m #[(.int p1)] 1) := fun t k => pre1 t (st2 t k)
  have e2 : T2.heap = h0 := hq2
  obtain ⟨fs, hr, hrun, hended, hW, hsame⟩ := X2.leave (v := some (.int (maxF (1 : Int32) (p1 &&& (2147483647 : Int32))))) (fun h => by rw [Bd.returns] at h; cases h)
  refine ⟨_, _, pre3 _ (retOut X2 hx Bd.returns rfl (Or.inl ⟨rfl, Or.inl rfl, _, rfl⟩) (hb hby dS_8) hr), hrun, hended, _, _, rfl, ?_, ⟨_, rfl⟩, hW, hsame.mono (by decide) (by decide)⟩
  show QS Z p1 r h0 n0 _ T2.heap _
  rw [e2]
  exact ⟨by rw [← hR]; rfl, N2, rfl⟩
theorem dC_0 : decode prog_32_method_1_code 0 = .ok (.aload_n 0, 1) := by decide +kernel
theorem dC_1 : decode prog_32_method_1_code 1 = .ok (.invokespecial 1, 3) := by decide +kernel
theorem dC_4 : decode prog_32_method_1_code 4 = .ok (.iload_n 1, 1) := by decide +kernel
theorem dC_5 : decode prog_32_method_1_code 5 = .ok (.ifCond .le 7, 3) := by decide +kernel
theorem dC_8 : decode prog_32_method_1_code 8 = .ok (.iload_n 2, 1) := by decide +kernel
theorem dC_9 : decode prog_32_method_1_code 9 = .ok (.ifCond .gt 18, 3) := by decide +kernel
theorem dC_27 : decode prog_32_method_1_code 27 = .ok (.aload_n 0, 1) := by decide +kernel
theorem dC_28 : decode prog_32_method_1_code 28 = .ok (.iload_n 1, 1) := by decide +kernel
theorem dC_29 : decode prog_32_method_1_code 29 = .ok (.putfield 16, 3) := by decide +kernel
theorem dC_32 : decode prog_32_method_1_code 32 = .ok (.aload_n 0, 1) := by decide +kernel
theorem dC_33 : decode prog_32_method_1_code 33 = .ok (.iload_n 2, 1) := by decide +kernel
theorem dC_34 : decode prog_32_method_1_code 34 = .ok (.putfield 22, 3) := by decide +kernel
theorem dC_37 : decode prog_32_method_1_code 37 = .ok (.return_, 1) := by decide +kernel
theorem pnC : plainName "com/example/vetter/vetter/profile/Resolution" = true := by first | (simp [plainName, overriddenIn]; done) | decide +kernel
theorem efC (m : MethodId) (a1 : Addr) (p1 : Int32) (p2 : Int32) : entryFrame m #[(.ref a1), (.int p1), (.int p2)] 3 = mkF m 0 #[.val (.ref a1), .val (.int p1), .val (.int p2)] [] := by first | (simp [entryFrame, mkF, argsToLocals, Value.category]; done) | rfl
def QC (Z : State) (a1 : Addr) (p1 : Int32) (p2 : Int32) (h0 : Heap) (n0 : Nat) (v : Option Value) (h : Heap) (L : List Loc) : Prop := v = none ∧ Fr n0 L ∧ Keep h0 h [a1] ∧ Exa Z h a1 "com/example/vetter/vetter/profile/Resolution" ∧ Fld Z h a1 "com/example/vetter/vetter/profile/Resolution" "width" "I" (.int p1) ∧ Fld Z h a1 "com/example/vetter/vetter/profile/Resolution" "height" "I" (.int p2)
set_option maxRecDepth 65536 in
set_option maxHeartbeats 40000000 in
theorem rmC (l : Launch) (Z : State) (a0 : Array Value) (hw : ∀ d ∈ tables_1, d.before a0 Z = true) (ws : List Jvm.Cond) (a1 : Addr) (p1 : Int32) (p2 : Int32) (h0 : Heap) (n0 : Nat) (Z0 : n0 ≤ h0.size) (E1 : Exa Z h0 a1 "com/example/vetter/vetter/profile/Resolution") (g_a1 : n0 ≤ a1) (F1 : Fld Z h0 a1 "com/example/vetter/vetter/profile/Resolution" "width" "I" (.int 0)) (F2 : Fld Z h0 a1 "com/example/vetter/vetter/profile/Resolution" "height" "I" (.int 0)) (hp1 : 0 < p1) (hp2 : 0 < p2) :
    MetFree l (⟨"com/example/vetter/vetter/profile/Resolution", "<init>", "(II)V"⟩ : MethodName) (head1 (Jvm.Cond.code (⟨"com/example/vetter/vetter/profile/Resolution", "<init>", "(II)V"⟩ : MethodName) prog_32_method_1_code 3 none :: ws) ({ frames := 1, cells := 0, slots := 0, locals := 12 } : Room)) (fun a U => a = #[(.ref a1), (.int p1), (.int p2)] ∧ Z.Warmed39 U.vm ∧ U.heap = h0) (fun _ _ _ _ _ => True) (fun _ U o U' => ∃ v L, o = .returned v ∧ QC Z a1 p1 p2 h0 n0 v U'.heap L ∧ FrameEnd U o U' L ({ frames := 1, cells := 0, slots := 0, locals := 12 } : Room).cells ({ frames := 1, cells := 0, slots := 0, locals := 12 } : Room).slots) := by
  refine MetFree.of_bodySF (plainFor_of_name pnC) hisR ?_
  intro p e s m args below meth c s₁ Bd hml0 hP hK
  obtain ⟨rfl, hZ, hh⟩ := hP
  have hx := Bd.exec
  have hby := Bd.bytes
  have hml : c.maxLocals = 3 := hml0
  have hown : s.vm.findClass "com/example/vetter/vetter/profile/Resolution" = some m.cls := findClass_of_methodNamed Bd.named
  have hnm := (name_of_methodNamed Bd.named Bd.method).1
  have X0 : Stand p l e ({ frames := 1, cells := 0, slots := 0, locals := 12 } : Room) s m #[(.ref a1), (.int p1), (.int p2)] below meth c s₁ [] 0 0 := Stand.of_body Bd
  have e0 : s₁.heap = h0 := by rw [← hh, Bd.state]; rfl
  have N0 := Fr.nil n0
  have pre0 : Go p e below s₁ (mkF m 0 #[.val (.ref a1), .val (.int p1), .val (.int p2)] []) s₁ (entryFrame m #[(.ref a1), (.int p1), (.int p2)] 3) := fun t k => castTop (efC m a1 p1 p2) k
  have pre1 : Go p e below s₁ (mkF m 1 #[.val (.ref a1), .val (.int p1), .val (.int p2)] [(.ref a1)]) s₁ (entryFrame m #[(.ref a1), (.int p1), (.int p2)] 3) := fun t k => pre0 t (by
      show Steps p.tables e below (s₁.setTop (mkF m 0 #[.val (.ref a1), .val (.int p1), .val (.int p2)] [])) t
      refine XS.aloadN X0.here hx rfl (hb hby dC_0) rfl rfl ?_
      exact k)
  obtain ⟨T2, X2, e2, st2⟩ := initO X0 hx hZ hown (hw _ (List.mem_of_getElem? (i := 15) rfl)) (hw _ (List.mem_of_getElem? (i := 16) rfl)) (hw _ (List.mem_of_getElem? (i := 17) rfl)) e0 (g := (mkF m 1 #[.val (.ref a1), .val (.int p1), .val (.int p2)] [(.ref a1)])) rfl (by rw [hml]; rfl) rfl (hb hby dC_1) (by decide) (W := 0) (by show 2 * 0 + _ ≤ _; exact Nat.le_of_eq rfl) (by decide)
  have pre3 : Go p e below T2 (mkF m 4 #[.val (.ref a1), .val (.int p1), .val (.int p2)] []) s₁ (entryFrame m #[(.ref a1), (.int p1), (.int p2)] 3) := fun t k => pre1 t (st2 t k)
  have pre4 : Go p e below T2 (mkF m 5 #[.val (.ref a1), .val (.int p1), .val (.int p2)] [(.int p1)]) s₁ (entryFrame m #[(.ref a1), (.int p1), (.int p2)] 3) := fun t k => pre3 t (by
      show Steps p.tables e below (T2.setTop (mkF m 4 #[.val (.ref a1), .val (.int p1), .val (.int p2)] [])) t
      refine XS.iloadN X2.here hx rfl (hb hby dC_4) rfl ?_
      exact k)
  by_cases hc5 : (0 : Int32) < p1
  · have pre5 : Go p e below T2 (mkF m 8 #[.val (.ref a1), .val (.int p1), .val (.int p2)] []) s₁ (entryFrame m #[(.ref a1), (.int p1), (.int p2)] 3) := fun t k => pre4 t (XS.ifNo X2.here hx rfl (hb hby dC_5) rfl ((if0 _ _).trans (tlt hc5).2.2.2) k)
    have pre6 : Go p e below T2 (mkF m 9 #[.val (.ref a1), .val (.int p1), .val (.int p2)] [(.int p2)]) s₁ (entryFrame m #[(.ref a1), (.int p1), (.int p2)] 3) := fun t k => pre5 t (by
        show Steps p.tables e below (T2.setTop (mkF m 8 #[.val (.ref a1), .val (.int p1), .val (.int p2)] [])) t
        refine XS.iloadN X2.here hx rfl (hb hby dC_8) rfl ?_
        exact k)
    by_cases hc9 : (0 : Int32) < p2
    · have pre7 : Go p e below T2 (mkF m 27 #[.val (.ref a1), .val (.int p1), .val (.int p2)] []) s₁ (entryFrame m #[(.ref a1), (.int p1), (.int p2)] 3) := fun t k => pre6 t (XS.ifYes X2.here hx rfl (pc0 := 9) (pc' := 27) rfl (hb hby dC_9) rfl ((if0 _ _).trans (tlt hc9).2.2.1) (by decide) (by decide) k)
      have pre8 : Go p e below T2 (mkF m 29 #[.val (.ref a1), .val (.int p1), .val (.int p2)] [(.int p1), (.ref a1)]) s₁ (entryFrame m #[(.ref a1), (.int p1), (.int p2)] 3) := fun t k => pre7 t (by
          show Steps p.tables e below (T2.setTop (mkF m 27 #[.val (.ref a1), .val (.int p1), .val (.int p2)] [])) t
          refine XS.aloadN X2.here hx rfl (hb hby dC_27) rfl rfl ?_
          show Steps p.tables e below (T2.setTop (mkF m 28 #[.val (.ref a1), .val (.int p1), .val (.int p2)] [(.ref a1)])) t
          refine XS.iloadN X2.here hx rfl (hb hby dC_28) rfl ?_
          exact k)
      obtain ⟨T9, h9, X9, e9, W9, st9⟩ := putF X2 hx hZ hown (host := "") (Or.inl (hw _ (List.mem_of_getElem? (i := 18) rfl))) Via.refl e2 F1 E1 (Or.inr ⟨(hw _ (List.mem_of_getElem? (i := 19) rfl)), rfl, hnm⟩) (hw _ (List.mem_of_getElem? (i := 10) rfl)) (ty := .int) (by decide) rfl rfl (g := (mkF m 29 #[.val (.ref a1), .val (.int p1), .val (.int p2)] [(.int p1), (.ref a1)])) rfl rfl (hb hby dC_29)
      have pre10 : Go p e below T9 (mkF m 32 #[.val (.ref a1), .val (.int p1), .val (.int p2)] []) s₁ (entryFrame m #[(.ref a1), (.int p1), (.int p2)] 3) := fun t k => pre8 t (st9 t k)
      have Z11 : n0 ≤ h9.size := Nat.le_trans Z0 (Keep.of_wr W9).1
      have K11 : Keep h0 h9 [a1] := (Keep.refl h0 [a1]).wr W9 (Or.inl (List.mem_of_getElem? (i := 0) rfl))
      have Fw9 := Fld.same W9 F1
      have N9 := Fr.snoc X9 N0 g_a1
      have pre12 : Go p e below T9 (mkF m 34 #[.val (.ref a1), .val (.int p1), .val (.int p2)] [(.int p2), (.ref a1)]) s₁ (entryFrame m #[(.ref a1), (.int p1), (.int p2)] 3) := fun t k => pre10 t (by
          show Steps p.tables e below (T9.setTop (mkF m 32 #[.val (.ref a1), .val (.int p1), .val (.int p2)] [])) t
          refine XS.aloadN X9.here hx rfl (hb hby dC_32) rfl rfl ?_
          show Steps p.tables e below (T9.setTop (mkF m 33 #[.val (.ref a1), .val (.int p1), .val (.int p2)] [(.ref a1)])) t
          refine XS.iloadN X9.here hx rfl (hb hby dC_33) rfl ?_
          exact k)
      obtain ⟨T13, h13, X13, e13, W13, st13⟩ := putF X9 hx hZ hown (host := "") (Or.inl (hw _ (List.mem_of_getElem? (i := 20) rfl))) Via.refl e9 (Fld.other W9 F2 (Or.inr (slot_ne (Or.inr (hw _ (List.mem_of_getElem? (i := 21) rfl))) (Or.inr (hw _ (List.mem_of_getElem? (i := 19) rfl))) (by decide) (t := .int) (t' := .int) (by decide) (by decide)))) (E1.wr W9) (Or.inr ⟨(hw _ (List.mem_of_getElem? (i := 21) rfl)), rfl, hnm⟩) (hw _ (List.mem_of_getElem? (i := 10) rfl)) (ty := .int) (by decide) rfl rfl (g := (mkF m 34 #[.val (.ref a1), .val (.int p1), .val (.int p2)] [(.int p2), (.ref a1)])) rfl rfl (hb hby dC_34)
      have pre14 : Go p e below T13 (mkF m 37 #[.val (.ref a1), .val (.int p1), .val (.int p2)] []) s₁ (entryFrame m #[(.ref a1), (.int p1), (.int p2)] 3) := fun t k => pre12 t (st13 t k)
      have Z15 : n0 ≤ h13.size := Nat.le_trans Z11 (Keep.of_wr W13).1
      have K15 : Keep h0 h13 [a1] := K11.wr W13 (Or.inl (List.mem_of_getElem? (i := 0) rfl))
      have Fw13 := Fld.same W13 (Fld.other W9 F2 (Or.inr (slot_ne (Or.inr (hw _ (List.mem_of_getElem? (i := 21) rfl))) (Or.inr (hw _ (List.mem_of_getElem? (i := 19) rfl))) (by decide) (t := .int) (t' := .int) (by decide) (by decide))))
      have N13 := Fr.snoc X13 N9 g_a1
      obtain ⟨fs, hr, hrun, hended, hW, hsame⟩ := X13.leave (v := none) (fun _ => rfl)
      refine ⟨_, _, pre14 _ (X13.returnOut hx Bd.returns (hb hby dC_37) hr), hrun, hended, _, _, rfl, ?_, ⟨_, rfl⟩, hW, hsame.mono (by decide) (by decide)⟩
      show QC Z a1 p1 p2 h0 n0 _ T13.heap _
      rw [e13]
      exact ⟨rfl, N13, K15, ((E1.wr W9).wr W13), (Fld.other W13 Fw9 (Or.inr (slot_ne (Or.inr (hw _ (List.mem_of_getElem? (i := 19) rfl))) (Or.inr (hw _ (List.mem_of_getElem? (i := 21) rfl))) (by decide) (t := .int) (t' := .int) (by decide) (by decide)))), Fw13⟩
    · exfalso
      first | exact absurd hp1 hc9 | exact absurd hp2 hc9
  · exfalso
    first | exact absurd hp1 hc5 | exact absurd hp2 hc5
def resF (ow tw oh th : Int32) : Int32 := if ow = tw then (if oh = th then 1 else 0) else 0
def eqF (a b c d : Int32) : Int32 := if a = c then (if b = d then 1 else 0) else 0
theorem own_res1 (a b c d : Int32) : resF c a d b = eqF a b c d := by unfold resF eqF; by_cases h1 : a = c <;> by_cases h2 : b = d <;> simp [h1, h2, eq_comm] <;> (intro h; exact absurd h.symm (by assumption))
theorem own_res2 (a b c d : Int32) : resF a c b d = eqF a b c d := rfl
theorem dE_0 : decode prog_32_method_6_code 0 = .ok (.aload_n 1, 1) := by decide +kernel
theorem dE_1 : decode prog_32_method_6_code 1 = .ok (.instanceof 17, 3) := by decide +kernel
theorem dE_4 : decode prog_32_method_6_code 4 = .ok (.ifCond .eq 35, 3) := by decide +kernel
theorem dE_7 : decode prog_32_method_6_code 7 = .ok (.aload_n 1, 1) := by decide +kernel
theorem dE_8 : decode prog_32_method_6_code 8 = .ok (.checkcast 17, 3) := by decide +kernel
theorem dE_11 : decode prog_32_method_6_code 11 = .ok (.getfield 16, 3) := by decide +kernel
theorem dE_14 : decode prog_32_method_6_code 14 = .ok (.aload_n 0, 1) := by decide +kernel
theorem dE_15 : decode prog_32_method_6_code 15 = .ok (.getfield 16, 3) := by decide +kernel
theorem dE_18 : decode prog_32_method_6_code 18 = .ok (.if_icmp .ne 21, 3) := by decide +kernel
theorem dE_21 : decode prog_32_method_6_code 21 = .ok (.aload_n 1, 1) := by decide +kernel
theorem dE_22 : decode prog_32_method_6_code 22 = .ok (.checkcast 17, 3) := by decide +kernel
theorem dE_25 : decode prog_32_method_6_code 25 = .ok (.getfield 22, 3) := by decide +kernel
theorem dE_28 : decode prog_32_method_6_code 28 = .ok (.aload_n 0, 1) := by decide +kernel
theorem dE_29 : decode prog_32_method_6_code 29 = .ok (.getfield 22, 3) := by decide +kernel
theorem dE_32 : decode prog_32_method_6_code 32 = .ok (.if_icmp .ne 7, 3) := by decide +kernel
theorem dE_35 : decode prog_32_method_6_code 35 = .ok (.iconst 1, 1) := by decide +kernel
theorem dE_36 : decode prog_32_method_6_code 36 = .ok (.goto 4, 3) := by decide +kernel
theorem dE_39 : decode prog_32_method_6_code 39 = .ok (.iconst 0, 1) := by decide +kernel
theorem dE_40 : decode prog_32_method_6_code 40 = .ok (.ireturn, 1) := by decide +kernel
theorem pnE : plainName "com/example/vetter/vetter/profile/Resolution" = true := by first | (simp [plainName, overriddenIn]; done) | decide +kernel
theorem efE (m : MethodId) (a1 : Addr) (a2 : Addr) : entryFrame m #[(.ref a1), (.ref a2)] 2 = mkF m 0 #[.val (.ref a1), .val (.ref a2)] [] := by first | (simp [entryFrame, mkF, argsToLocals, Value.category]; done) | rfl
def QE (Z : State) (a1 : Addr) (a2 : Addr) (tw : Int32) (th : Int32) (ow : Int32) (oh : Int32) (r : Int32) (h0 : Heap) (n0 : Nat) (v : Option Value) (h : Heap) (L : List Loc) : Prop := v = some (.int r) ∧ Fr n0 L ∧ h = h0
set_option maxRecDepth 65536 in
set_option maxHeartbeats 40000000 in
theorem rmE (l : Launch) (Z : State) (a0 : Array Value) (hw : ∀ d ∈ tables_1, d.before a0 Z = true) (ws : List Jvm.Cond) (a1 : Addr) (a2 : Addr) (tw : Int32) (th : Int32) (ow : Int32) (oh : Int32) (r : Int32) (h0 : Heap) (n0 : Nat) (Z0 : n0 ≤ h0.size) (E2 : Exa Z h0 a2 "com/example/vetter/vetter/profile/Resolution") (F1 : Fld Z h0 a1 "com/example/vetter/vetter/profile/Resolution" "width" "I" (.int tw)) (F2 : Fld Z h0 a1 "com/example/vetter/vetter/profile/Resolution" "height" "I" (.int th)) (F3 : Fld Z h0 a2 "com/example/vetter/vetter/profile/Resolution" "width" "I" (.int ow)) (F4 : Fld Z h0 a2 "com/example/vetter/vetter/profile/Resolution" "height" "I" (.int oh)) (hR : resF ow tw oh th = r) :
    MetFree l (⟨"com/example/vetter/vetter/profile/Resolution", "equals", "(Ljava/lang/Object;)Z"⟩ : MethodName) (head1 (Jvm.Cond.code (⟨"com/example/vetter/vetter/profile/Resolution", "equals", "(Ljava/lang/Object;)Z"⟩ : MethodName) prog_32_method_6_code 2 (some .boolean) :: ws) ({ frames := 0, cells := 0, slots := 0, locals := 0 } : Room)) (fun a U => a = #[(.ref a1), (.ref a2)] ∧ Z.Warmed39 U.vm ∧ U.heap = h0) (fun _ _ _ _ _ => True) (fun _ U o U' => ∃ v L, o = .returned v ∧ QE Z a1 a2 tw th ow oh r h0 n0 v U'.heap L ∧ FrameEnd U o U' L ({ frames := 0, cells := 0, slots := 0, locals := 0 } : Room).cells ({ frames := 0, cells := 0, slots := 0, locals := 0 } : Room).slots) := by
  refine MetFree.of_bodySF (plainFor_of_name pnE) hisR ?_
  intro p e s m args below meth c s₁ Bd hml0 hP hK
  obtain ⟨rfl, hZ, hh⟩ := hP
  have hx := Bd.exec
  have hby := Bd.bytes
  have hml : c.maxLocals = 2 := hml0
  have hown : s.vm.findClass "com/example/vetter/vetter/profile/Resolution" = some m.cls := findClass_of_methodNamed Bd.named
  have hnm := (name_of_methodNamed Bd.named Bd.method).1
  have X0 : Stand p l e ({ frames := 0, cells := 0, slots := 0, locals := 0 } : Room) s m #[(.ref a1), (.ref a2)] below meth c s₁ [] 0 0 := Stand.of_body Bd
  have e0 : s₁.heap = h0 := by rw [← hh, Bd.state]; rfl
  have N0 := Fr.nil n0
  have pre0 : Go p e below s₁ (mkF m 0 #[.val (.ref a1), .val (.ref a2)] []) s₁ (entryFrame m #[(.ref a1), (.ref a2)] 2) := fun t k => castTop (efE m a1 a2) k
  have pre1 : Go p e below s₁ (mkF m 1 #[.val (.ref a1), .val (.ref a2)] [(.ref a2)]) s₁ (entryFrame m #[(.ref a1), (.ref a2)] 2) := fun t k => pre0 t (by
      show Steps p.tables e below (s₁.setTop (mkF m 0 #[.val (.ref a1), .val (.ref a2)] [])) t
      refine XS.aloadN X0.here hx rfl (hb hby dE_0) rfl rfl ?_
      exact k)
  obtain ⟨T2, X2, e2, st2⟩ := instY X0 hx hZ hown (hw _ (List.mem_of_getElem? (i := 27) rfl)) e0 (Ins.self E2) (g := (mkF m 1 #[.val (.ref a1), .val (.ref a2)] [(.ref a2)])) rfl rfl (hb hby dE_1)
  have pre3 : Go p e below T2 (mkF m 4 #[.val (.ref a1), .val (.ref a2)] [(.int (1 : Int32))]) s₁ (entryFrame m #[(.ref a1), (.ref a2)] 2) := fun t k => pre1 t (st2 t k)
  have pre4 : Go p e below T2 (mkF m 7 #[.val (.ref a1), .val (.ref a2)] []) s₁ (entryFrame m #[(.ref a1), (.ref a2)] 2) := fun t k => pre3 t (XS.ifNo X2.here hx rfl (hb hby dE_4) rfl ((if0 _ _).trans (feq (by decide : ¬ ((1 : Int32) = (0 : Int32)))).1) k)
  have pre5 : Go p e below T2 (mkF m 8 #[.val (.ref a1), .val (.ref a2)] [(.ref a2)]) s₁ (entryFrame m #[(.ref a1), (.ref a2)] 2) := fun t k => pre4 t (by
      show Steps p.tables e below (T2.setTop (mkF m 7 #[.val (.ref a1), .val (.ref a2)] [])) t
      refine XS.aloadN X2.here hx rfl (hb hby dE_7) rfl rfl ?_
      exact k)
  obtain ⟨T6, X6, e6, st6⟩ := castY X2 hx hZ hown (hw _ (List.mem_of_getElem? (i := 27) rfl)) e2 (Ins.self E2) (g := (mkF m 8 #[.val (.ref a1), .val (.ref a2)] [(.ref a2)])) rfl rfl (hb hby dE_8)
  have pre7 : Go p e below T6 (mkF m 11 #[.val (.ref a1), .val (.ref a2)] [(.ref a2)]) s₁ (entryFrame m #[(.ref a1), (.ref a2)] 2) := fun t k => pre5 t (st6 t k)
  obtain ⟨T8, X8, e8, st8⟩ := getF X6 hx hZ hown (host := "") (Or.inl (hw _ (List.mem_of_getElem? (i := 18) rfl))) Via.refl e6 F3 (g := (mkF m 11 #[.val (.ref a1), .val (.ref a2)] [(.ref a2)])) rfl rfl (hb hby dE_11)
  have pre9 : Go p e below T8 (mkF m 14 #[.val (.ref a1), .val (.ref a2)] [(.int ow)]) s₁ (entryFrame m #[(.ref a1), (.ref a2)] 2) := fun t k => pre7 t (st8 t k)
  have pre10 : Go p e below T8 (mkF m 15 #[.val (.ref a1), .val (.ref a2)] [(.ref a1), (.int ow)]) s₁ (entryFrame m #[(.ref a1), (.ref a2)] 2) := fun t k => pre9 t (by
      show Steps p.tables e below (T8.setTop (mkF m 14 #[.val (.ref a1), .val (.ref a2)] [(.int ow)])) t
      refine XS.aloadN X8.here hx rfl (hb hby dE_14) rfl rfl ?_
      exact k)
  obtain ⟨T11, X11, e11, st11⟩ := getF X8 hx hZ hown (host := "") (Or.inl (hw _ (List.mem_of_getElem? (i := 18) rfl))) Via.refl e8 F1 (g := (mkF m 15 #[.val (.ref a1), .val (.ref a2)] [(.ref a1), (.int ow)])) rfl rfl (hb hby dE_15)
  have pre12 : Go p e below T11 (mkF m 18 #[.val (.ref a1), .val (.ref a2)] [(.int tw), (.int ow)]) s₁ (entryFrame m #[(.ref a1), (.ref a2)] 2) := fun t k => pre10 t (st11 t k)
  by_cases hc18 : ow = tw
  · have pre13 : Go p e below T11 (mkF m 21 #[.val (.ref a1), .val (.ref a2)] []) s₁ (entryFrame m #[(.ref a1), (.ref a2)] 2) := fun t k => pre12 t (XS.icmpNo X11.here hx rfl (hb hby dE_18) rfl (teq hc18).2 k)
    have pre14 : Go p e below T11 (mkF m 22 #[.val (.ref a1), .val (.ref a2)] [(.ref a2)]) s₁ (entryFrame m #[(.ref a1), (.ref a2)] 2) := fun t k => pre13 t (by
        show Steps p.tables e below (T11.setTop (mkF m 21 #[.val (.ref a1), .val (.ref a2)] [])) t
        refine XS.aloadN X11.here hx rfl (hb hby dE_21) rfl rfl ?_
        exact k)
    obtain ⟨T15, X15, e15, st15⟩ := castY X11 hx hZ hown (hw _ (List.mem_of_getElem? (i := 27) rfl)) e11 (Ins.self E2) (g := (mkF m 22 #[.val (.ref a1), .val (.ref a2)] [(.ref a2)])) rfl rfl (hb hby dE_22)
    have pre16 : Go p e below T15 (mkF m 25 #[.val (.ref a1), .val (.ref a2)] [(.ref a2)]) s₁ (entryFrame m #[(.ref a1), (.ref a2)] 2) := fun t k => pre14 t (st15 t k)
    obtain ⟨T17, X17, e17, st17⟩ := getF X15 hx hZ hown (host := "") (Or.inl (hw _ (List.mem_of_getElem? (i := 20) rfl))) Via.refl e15 F4 (g := (mkF m 25 #[.val (.ref a1), .val (.ref a2)] [(.ref a2)])) rfl rfl (hb hby dE_25)
    have pre18 : Go p e below T17 (mkF m 28 #[.val (.ref a1), .val (.ref a2)] [(.int oh)]) s₁ (entryFrame m #[(.ref a1), (.ref a2)] 2) := fun t k => pre16 t (st17 t k)
    have pre19 : Go p e below T17 (mkF m 29 #[.val (.ref a1), .val (.ref a2)] [(.ref a1), (.int oh)]) s₁ (entryFrame m #[(.ref a1), (.ref a2)] 2) := fun t k => pre18 t (by
        show Steps p.tables e below (T17.setTop (mkF m 28 #[.val (.ref a1), .val (.ref a2)] [(.int oh)])) t
        refine XS.aloadN X17.here hx rfl (hb hby dE_28) rfl rfl ?_
        exact k)
    obtain ⟨T20, X20, e20, st20⟩ := getF X17 hx hZ hown (host := "") (Or.inl (hw _ (List.mem_of_getElem? (i := 20) rfl))) Via.refl e17 F2 (g := (mkF m 29 #[.val (.ref a1), .val (.ref a2)] [(.ref a1), (.int oh)])) rfl rfl (hb hby dE_29)
    have pre21 : Go p e below T20 (mkF m 32 #[.val (.ref a1), .val (.ref a2)] [(.int th), (.int oh)]) s₁ (entryFrame m #[(.ref a1), (.ref a2)] 2) := fun t k => pre19 t (st20 t k)
    by_cases hc32 : oh = th
    · have pre22 : Go p e below T20 (mkF m 35 #[.val (.ref a1), .val (.ref a2)] []) s₁ (entryFrame m #[(.ref a1), (.ref a2)] 2) := fun t k => pre21 t (XS.icmpNo X20.here hx rfl (hb hby dE_32) rfl (teq hc32).2 k)
      have pre23 : Go p e below T20 (mkF m 40 #[.val (.ref a1), .val (.ref a2)] [(.int (1 : Int32))]) s₁ (entryFrame m #[(.ref a1), (.ref a2)] 2) := fun t k => pre22 t (by
          show Steps p.tables e below (T20.setTop (mkF m 35 #[.val (.ref a1), .val (.ref a2)] [])) t
          refine XS.iconst X20.here hx rfl (hb hby dE_35) ?_
          show Steps p.tables e below (T20.setTop (mkF m 36 #[.val (.ref a1), .val (.ref a2)] [(.int (1 : Int32))])) t
          refine XS.goto X20.here hx rfl (pc0 := 36) (pc' := 40) rfl (hb hby dE_36) (by decide) (by decide) ?_
          exact k)
      have hnr : Value.int (nar .boolean (1 : Int32)) = (.int (1 : Int32)) := by rfl
      obtain ⟨fs, hr, hrun, hended, hW, hsame⟩ := X20.leave (v := some (.int (1 : Int32))) (fun h => by rw [Bd.returns] at h; cases h)
      refine ⟨_, _, pre23 _ (retN X20 hx (t := .boolean) Bd.returns (by simp) (hb hby dE_40) (hnr ▸ hr)), hrun, hended, _, _, rfl, ?_, ⟨_, rfl⟩, hW, hsame.mono (by decide) (by decide)⟩
      show QE Z a1 a2 tw th ow oh r h0 n0 _ T20.heap _
      rw [e20]
      exact ⟨by rw [← hR]; simp [resF, hc18, hc32], N0, rfl⟩
    · have pre24 : Go p e below T20 (mkF m 39 #[.val (.ref a1), .val (.ref a2)] []) s₁ (entryFrame m #[(.ref a1), (.ref a2)] 2) := fun t k => pre21 t (XS.icmpYes X20.here hx rfl (pc0 := 32) (pc' := 39) rfl (hb hby dE_32) rfl (feq hc32).2 (by decide) (by decide) k)
      have pre25 : Go p e below T20 (mkF m 40 #[.val (.ref a1), .val (.ref a2)] [(.int (0 : Int32))]) s₁ (entryFrame m #[(.ref a1), (.ref a2)] 2) := fun t k => pre24 t (by
          show Steps p.tables e below (T20.setTop (mkF m 39 #[.val (.ref a1), .val (.ref a2)] [])) t
          refine XS.iconst X20.here hx rfl (hb hby dE_39) ?_
          exact k)
      have hnr : Value.int (nar .boolean (0 : Int32)) = (.int (0 : Int32)) := by rfl
      obtain ⟨fs, hr, hrun, hended, hW, hsame⟩ := X20.leave (v := some (.int (0 : Int32))) (fun h => by rw [Bd.returns] at h; cases h)
      refine ⟨_, _, pre25 _ (retN X20 hx (t := .boolean) Bd.returns (by simp) (hb hby dE_40) (hnr ▸ hr)), hrun, hended, _, _, rfl, ?_, ⟨_, rfl⟩, hW, hsame.mono (by decide) (by decide)⟩
      show QE Z a1 a2 tw th ow oh r h0 n0 _ T20.heap _
      rw [e20]
      exact ⟨by rw [← hR]; simp [resF, hc18, hc32], N0, rfl⟩
  · have pre26 : Go p e below T11 (mkF m 39 #[.val (.ref a1), .val (.ref a2)] []) s₁ (entryFrame m #[(.ref a1), (.ref a2)] 2) := fun t k => pre12 t (XS.icmpYes X11.here hx rfl (pc0 := 18) (pc' := 39) rfl (hb hby dE_18) rfl (feq hc18).2 (by decide) (by decide) k)
    have pre27 : Go p e below T11 (mkF m 40 #[.val (.ref a1), .val (.ref a2)] [(.int (0 : Int32))]) s₁ (entryFrame m #[(.ref a1), (.ref a2)] 2) := fun t k => pre26 t (by
        show Steps p.tables e below (T11.setTop (mkF m 39 #[.val (.ref a1), .val (.ref a2)] [])) t
        refine XS.iconst X11.here hx rfl (hb hby dE_39) ?_
        exact k)
    have hnr : Value.int (nar .boolean (0 : Int32)) = (.int (0 : Int32)) := by rfl
    obtain ⟨fs, hr, hrun, hended, hW, hsame⟩ := X11.leave (v := some (.int (0 : Int32))) (fun h => by rw [Bd.returns] at h; cases h)
    refine ⟨_, _, pre27 _ (retN X11 hx (t := .boolean) Bd.returns (by simp) (hb hby dE_40) (hnr ▸ hr)), hrun, hended, _, _, rfl, ?_, ⟨_, rfl⟩, hW, hsame.mono (by decide) (by decide)⟩
    show QE Z a1 a2 tw th ow oh r h0 n0 _ T11.heap _
    rw [e11]
    exact ⟨by rw [← hR]; simp [resF, hc18], N0, rfl⟩
theorem dN_0 : decode prog_32_method_6_code 0 = .ok (.aload_n 1, 1) := by decide +kernel
theorem dN_1 : decode prog_32_method_6_code 1 = .ok (.instanceof 17, 3) := by decide +kernel
theorem dN_4 : decode prog_32_method_6_code 4 = .ok (.ifCond .eq 35, 3) := by decide +kernel
theorem dN_39 : decode prog_32_method_6_code 39 = .ok (.iconst 0, 1) := by decide +kernel
theorem dN_40 : decode prog_32_method_6_code 40 = .ok (.ireturn, 1) := by decide +kernel
theorem pnN : plainName "com/example/vetter/vetter/profile/Resolution" = true := by first | (simp [plainName, overriddenIn]; done) | decide +kernel
theorem efN (m : MethodId) (a1 : Addr) : entryFrame m #[(.ref a1), .null] 2 = mkF m 0 #[.val (.ref a1), .val .null] [] := by first | (simp [entryFrame, mkF, argsToLocals, Value.category]; done) | rfl
def QN (Z : State) (a1 : Addr) (h0 : Heap) (n0 : Nat) (v : Option Value) (h : Heap) (L : List Loc) : Prop := v = some (.int 0) ∧ Fr n0 L ∧ h = h0
set_option maxRecDepth 65536 in
set_option maxHeartbeats 40000000 in
theorem rmN (l : Launch) (Z : State) (a0 : Array Value) (hw : ∀ d ∈ tables_1, d.before a0 Z = true) (ws : List Jvm.Cond) (a1 : Addr) (h0 : Heap) (n0 : Nat) (Z0 : n0 ≤ h0.size) :
    MetFree l (⟨"com/example/vetter/vetter/profile/Resolution", "equals", "(Ljava/lang/Object;)Z"⟩ : MethodName) (head1 (Jvm.Cond.code (⟨"com/example/vetter/vetter/profile/Resolution", "equals", "(Ljava/lang/Object;)Z"⟩ : MethodName) prog_32_method_6_code 2 (some .boolean) :: ws) ({ frames := 0, cells := 0, slots := 0, locals := 0 } : Room)) (fun a U => a = #[(.ref a1), .null] ∧ Z.Warmed39 U.vm ∧ U.heap = h0) (fun _ _ _ _ _ => True) (fun _ U o U' => ∃ v L, o = .returned v ∧ QN Z a1 h0 n0 v U'.heap L ∧ FrameEnd U o U' L ({ frames := 0, cells := 0, slots := 0, locals := 0 } : Room).cells ({ frames := 0, cells := 0, slots := 0, locals := 0 } : Room).slots) := by
  refine MetFree.of_bodySF (plainFor_of_name pnN) hisR ?_
  intro p e s m args below meth c s₁ Bd hml0 hP hK
  obtain ⟨rfl, hZ, hh⟩ := hP
  have hx := Bd.exec
  have hby := Bd.bytes
  have hml : c.maxLocals = 2 := hml0
  have hown : s.vm.findClass "com/example/vetter/vetter/profile/Resolution" = some m.cls := findClass_of_methodNamed Bd.named
  have hnm := (name_of_methodNamed Bd.named Bd.method).1
  have X0 : Stand p l e ({ frames := 0, cells := 0, slots := 0, locals := 0 } : Room) s m #[(.ref a1), .null] below meth c s₁ [] 0 0 := Stand.of_body Bd
  have e0 : s₁.heap = h0 := by rw [← hh, Bd.state]; rfl
  have N0 := Fr.nil n0
  have pre0 : Go p e below s₁ (mkF m 0 #[.val (.ref a1), .val .null] []) s₁ (entryFrame m #[(.ref a1), .null] 2) := fun t k => castTop (efN m a1) k
  have pre1 : Go p e below s₁ (mkF m 1 #[.val (.ref a1), .val .null] [.null]) s₁ (entryFrame m #[(.ref a1), .null] 2) := fun t k => pre0 t (by
      show Steps p.tables e below (s₁.setTop (mkF m 0 #[.val (.ref a1), .val .null] [])) t
      refine XS.aloadN X0.here hx rfl (hb hby dN_0) rfl rfl ?_
      exact k)
  have pre2 : Go p e below s₁ (mkF m 4 #[.val (.ref a1), .val .null] [(.int (0 : Int32))]) s₁ (entryFrame m #[(.ref a1), .null] 2) := fun t k => pre1 t (by
      show Steps p.tables e below (s₁.setTop (mkF m 1 #[.val (.ref a1), .val .null] [.null])) t
      refine X0.instanceofNull hx (g := (mkF m 1 #[.val (.ref a1), .val .null] [.null])) rfl rfl (hb hby dN_1) _ ?_
      exact k)
  have pre3 : Go p e below s₁ (mkF m 39 #[.val (.ref a1), .val .null] []) s₁ (entryFrame m #[(.ref a1), .null] 2) := fun t k => pre2 t (XS.ifYes X0.here hx rfl (pc0 := 4) (pc' := 39) rfl (hb hby dN_4) rfl ((if0 _ _).trans (teq (by decide : (0 : Int32) = (0 : Int32))).1) (by decide) (by decide) k)
  have pre4 : Go p e below s₁ (mkF m 40 #[.val (.ref a1), .val .null] [(.int (0 : Int32))]) s₁ (entryFrame m #[(.ref a1), .null] 2) := fun t k => pre3 t (by
      show Steps p.tables e below (s₁.setTop (mkF m 39 #[.val (.ref a1), .val .null] [])) t
      refine XS.iconst X0.here hx rfl (hb hby dN_39) ?_
      exact k)
  have hnr : Value.int (nar .boolean (0 : Int32)) = (.int (0 : Int32)) := by rfl
  obtain ⟨fs, hr, hrun, hended, hW, hsame⟩ := X0.leave (v := some (.int (0 : Int32))) (fun h => by rw [Bd.returns] at h; cases h)
  refine ⟨_, _, pre4 _ (retN X0 hx (t := .boolean) Bd.returns (by simp) (hb hby dN_40) (hnr ▸ hr)), hrun, hended, _, _, rfl, ?_, ⟨_, rfl⟩, hW, hsame.mono (by decide) (by decide)⟩
  show QN Z a1 h0 n0 _ s₁.heap _
  rw [e0]
  exact ⟨rfl, N0, rfl⟩
theorem dI_0 : decode prog_32_method_6_code 0 = .ok (.aload_n 1, 1) := by decide +kernel
theorem dI_1 : decode prog_32_method_6_code 1 = .ok (.instanceof 17, 3) := by decide +kernel
theorem dI_4 : decode prog_32_method_6_code 4 = .ok (.ifCond .eq 35, 3) := by decide +kernel
theorem dI_39 : decode prog_32_method_6_code 39 = .ok (.iconst 0, 1) := by decide +kernel
theorem dI_40 : decode prog_32_method_6_code 40 = .ok (.ireturn, 1) := by decide +kernel
theorem pnI : plainName "com/example/vetter/vetter/profile/Resolution" = true := by first | (simp [plainName, overriddenIn]; done) | decide +kernel
theorem efI (m : MethodId) (a1 : Addr) (a2 : Addr) : entryFrame m #[(.ref a1), (.ref a2)] 2 = mkF m 0 #[.val (.ref a1), .val (.ref a2)] [] := by first | (simp [entryFrame, mkF, argsToLocals, Value.category]; done) | rfl
def QI (Z : State) (a1 : Addr) (a2 : Addr) (h0 : Heap) (n0 : Nat) (v : Option Value) (h : Heap) (L : List Loc) : Prop := v = some (.int 0) ∧ Fr n0 L ∧ h = h0
set_option maxRecDepth 65536 in
set_option maxHeartbeats 40000000 in
theorem rmI (l : Launch) (Z : State) (a0 : Array Value) (hw : ∀ d ∈ tables_1, d.before a0 Z = true) (ws : List Jvm.Cond) (a1 : Addr) (a2 : Addr) (h0 : Heap) (n0 : Nat) (Z0 : n0 ≤ h0.size) (E2 : Exa Z h0 a2 "java/lang/Integer") :
    MetFree l (⟨"com/example/vetter/vetter/profile/Resolution", "equals", "(Ljava/lang/Object;)Z"⟩ : MethodName) (head1 (Jvm.Cond.code (⟨"com/example/vetter/vetter/profile/Resolution", "equals", "(Ljava/lang/Object;)Z"⟩ : MethodName) prog_32_method_6_code 2 (some .boolean) :: ws) ({ frames := 0, cells := 0, slots := 0, locals := 0 } : Room)) (fun a U => a = #[(.ref a1), (.ref a2)] ∧ Z.Warmed39 U.vm ∧ U.heap = h0) (fun _ _ _ _ _ => True) (fun _ U o U' => ∃ v L, o = .returned v ∧ QI Z a1 a2 h0 n0 v U'.heap L ∧ FrameEnd U o U' L ({ frames := 0, cells := 0, slots := 0, locals := 0 } : Room).cells ({ frames := 0, cells := 0, slots := 0, locals := 0 } : Room).slots) := by
  refine MetFree.of_bodySF (plainFor_of_name pnI) hisR ?_
  intro p e s m args below meth c s₁ Bd hml0 hP hK
  obtain ⟨rfl, hZ, hh⟩ := hP
  have hx := Bd.exec
  have hby := Bd.bytes
  have hml : c.maxLocals = 2 := hml0
  have hown : s.vm.findClass "com/example/vetter/vetter/profile/Resolution" = some m.cls := findClass_of_methodNamed Bd.named
  have hnm := (name_of_methodNamed Bd.named Bd.method).1
  have X0 : Stand p l e ({ frames := 0, cells := 0, slots := 0, locals := 0 } : Room) s m #[(.ref a1), (.ref a2)] below meth c s₁ [] 0 0 := Stand.of_body Bd
  have e0 : s₁.heap = h0 := by rw [← hh, Bd.state]; rfl
  have N0 := Fr.nil n0
  have pre0 : Go p e below s₁ (mkF m 0 #[.val (.ref a1), .val (.ref a2)] []) s₁ (entryFrame m #[(.ref a1), (.ref a2)] 2) := fun t k => castTop (efI m a1 a2) k
  have pre1 : Go p e below s₁ (mkF m 1 #[.val (.ref a1), .val (.ref a2)] [(.ref a2)]) s₁ (entryFrame m #[(.ref a1), (.ref a2)] 2) := fun t k => pre0 t (by
      show Steps p.tables e below (s₁.setTop (mkF m 0 #[.val (.ref a1), .val (.ref a2)] [])) t
      refine XS.aloadN X0.here hx rfl (hb hby dI_0) rfl rfl ?_
      exact k)
  obtain ⟨T2, X2, e2, st2⟩ := instNo X0 hx hZ hown (hw _ (List.mem_of_getElem? (i := 27) rfl)) e0 E2 (own_no (hw _ (List.mem_of_getElem? (i := 36) rfl)) (hw _ (List.mem_of_getElem? (i := 10) rfl)) (NS.step (hw _ (List.mem_of_getElem? (i := 36) rfl)) (NS.step (hw _ (List.mem_of_getElem? (i := 37) rfl)) (own_root (hw _ (List.mem_of_getElem? (i := 38) rfl)) (hw _ (List.mem_of_getElem? (i := 10) rfl)) (by decide)) (by decide)) (by decide)) (by decide)) (g := (mkF m 1 #[.val (.ref a1), .val (.ref a2)] [(.ref a2)])) rfl rfl (hb hby dI_1)
  have pre3 : Go p e below T2 (mkF m 4 #[.val (.ref a1), .val (.ref a2)] [(.int (0 : Int32))]) s₁ (entryFrame m #[(.ref a1), (.ref a2)] 2) := fun t k => pre1 t (st2 t k)
  have pre4 : Go p e below T2 (mkF m 39 #[.val (.ref a1), .val (.ref a2)] []) s₁ (entryFrame m #[(.ref a1), (.ref a2)] 2) := fun t k => pre3 t (XS.ifYes X2.here hx rfl (pc0 := 4) (pc' := 39) rfl (hb hby dI_4) rfl ((if0 _ _).trans (teq (by decide : (0 : Int32) = (0 : Int32))).1) (by decide) (by decide) k)
  have pre5 : Go p e below T2 (mkF m 40 #[.val (.ref a1), .val (.ref a2)] [(.int (0 : Int32))]) s₁ (entryFrame m #[(.ref a1), (.ref a2)] 2) := fun t k => pre4 t (by
      show Steps p.tables e below (T2.setTop (mkF m 39 #[.val (.ref a1), .val (.ref a2)] [])) t
      refine XS.iconst X2.here hx rfl (hb hby dI_39) ?_
      exact k)
  have hnr : Value.int (nar .boolean (0 : Int32)) = (.int (0 : Int32)) := by rfl
  obtain ⟨fs, hr, hrun, hended, hW, hsame⟩ := X2.leave (v := some (.int (0 : Int32))) (fun h => by rw [Bd.returns] at h; cases h)
  refine ⟨_, _, pre5 _ (retN X2 hx (t := .boolean) Bd.returns (by simp) (hb hby dI_40) (hnr ▸ hr)), hrun, hended, _, _, rfl, ?_, ⟨_, rfl⟩, hW, hsame.mono (by decide) (by decide)⟩
  show QI Z a1 a2 h0 n0 _ T2.heap _
  rw [e2]
  exact ⟨rfl, N0, rfl⟩
theorem dNI_0 : decode jdk_18_method_1_code 0 = .ok (.aload_n 0, 1) := by decide +kernel
theorem dNI_1 : decode jdk_18_method_1_code 1 = .ok (.invokespecial 1, 3) := by decide +kernel
theorem dNI_4 : decode jdk_18_method_1_code 4 = .ok (.return_, 1) := by decide +kernel
theorem pnNI : plainName "java/lang/Number" = true := by first | (simp [plainName, overriddenIn]; done) | decide +kernel
theorem efNI (m : MethodId) (a1 : Addr) : entryFrame m #[(.ref a1)] 1 = mkF m 0 #[.val (.ref a1)] [] := by first | (simp [entryFrame, mkF, argsToLocals, Value.category]; done) | rfl
def QNI (Z : State) (a1 : Addr) (h0 : Heap) (n0 : Nat) (v : Option Value) (h : Heap) (L : List Loc) : Prop := v = none ∧ Fr n0 L ∧ h = h0
set_option maxRecDepth 65536 in
set_option maxHeartbeats 40000000 in
theorem rmNI (l : Launch) (Z : State) (a0 : Array Value) (hw : ∀ d ∈ tables_1, d.before a0 Z = true) (ws : List Jvm.Cond) (a1 : Addr) (h0 : Heap) (n0 : Nat) (Z0 : n0 ≤ h0.size) :
    MetFree l (⟨"java/lang/Number", "<init>", "()V"⟩ : MethodName) (head1 (Jvm.Cond.code (⟨"java/lang/Number", "<init>", "()V"⟩ : MethodName) jdk_18_method_1_code 1 none :: ws) ({ frames := 1, cells := 0, slots := 0, locals := 12 } : Room)) (fun a U => a = #[(.ref a1)] ∧ Z.Warmed39 U.vm ∧ U.heap = h0) (fun _ _ _ _ _ => True) (fun _ U o U' => ∃ v L, o = .returned v ∧ QNI Z a1 h0 n0 v U'.heap L ∧ FrameEnd U o U' L ({ frames := 1, cells := 0, slots := 0, locals := 12 } : Room).cells ({ frames := 1, cells := 0, slots := 0, locals := 12 } : Room).slots) := by
  refine MetFree.of_bodySF (plainFor_of_name pnNI) hisR ?_
  intro p e s m args below meth c s₁ Bd hml0 hP hK
  obtain ⟨rfl, hZ, hh⟩ := hP
  have hx := Bd.exec
  have hby := Bd.bytes
  have hml : c.maxLocals = 1 := hml0
  have hown : s.vm.findClass "java/lang/Number" = some m.cls := findClass_of_methodNamed Bd.named
  have hnm := (name_of_methodNamed Bd.named Bd.method).1
  have X0 : Stand p l e ({ frames := 1, cells := 0, slots := 0, locals := 12 } : Room) s m #[(.ref a1)] below meth c s₁ [] 0 0 := Stand.of_body Bd
  have e0 : s₁.heap = h0 := by rw [← hh, Bd.state]; rfl
  have N0 := Fr.nil n0
  have pre0 : Go p e below s₁ (mkF m 0 #[.val (.ref a1)] []) s₁ (entryFrame m #[(.ref a1)] 1) := fun t k => castTop (efNI m a1) k
  have pre1 : Go p e below s₁ (mkF m 1 #[.val (.ref a1)] [(.ref a1)]) s₁ (entryFrame m #[(.ref a1)] 1) := fun t k => pre0 t (by
      show Steps p.tables e below (s₁.setTop (mkF m 0 #[.val (.ref a1)] [])) t
      refine XS.aloadN X0.here hx rfl (hb hby dNI_0) rfl rfl ?_
      exact k)
  obtain ⟨T2, X2, e2, st2⟩ := initO X0 hx hZ hown (hw _ (List.mem_of_getElem? (i := 51) rfl)) (hw _ (List.mem_of_getElem? (i := 16) rfl)) (hw _ (List.mem_of_getElem? (i := 17) rfl)) e0 (g := (mkF m 1 #[.val (.ref a1)] [(.ref a1)])) rfl (by rw [hml]; rfl) rfl (hb hby dNI_1) (by decide) (W := 0) (by show 2 * 0 + _ ≤ _; exact Nat.le_of_eq rfl) (by decide)
  have pre3 : Go p e below T2 (mkF m 4 #[.val (.ref a1)] []) s₁ (entryFrame m #[(.ref a1)] 1) := fun t k => pre1 t (st2 t k)
  obtain ⟨fs, hr, hrun, hended, hW, hsame⟩ := X2.leave (v := none) (fun _ => rfl)
  refine ⟨_, _, pre3 _ (X2.returnOut hx Bd.returns (hb hby dNI_4) hr), hrun, hended, _, _, rfl, ?_, ⟨_, rfl⟩, hW, hsame.mono (by decide) (by decide)⟩
  show QNI Z a1 h0 n0 _ T2.heap _
  rw [e2]
  exact ⟨rfl, N0, rfl⟩
theorem dII_0 : decode jdk_33_method_23_code 0 = .ok (.aload_n 0, 1) := by decide +kernel
theorem dII_1 : decode jdk_33_method_23_code 1 = .ok (.invokespecial 202, 3) := by decide +kernel
theorem dII_4 : decode jdk_33_method_23_code 4 = .ok (.aload_n 0, 1) := by decide +kernel
theorem dII_5 : decode jdk_33_method_23_code 5 = .ok (.iload_n 1, 1) := by decide +kernel
theorem dII_6 : decode jdk_33_method_23_code 6 = .ok (.putfield 205, 3) := by decide +kernel
theorem dII_9 : decode jdk_33_method_23_code 9 = .ok (.return_, 1) := by decide +kernel
theorem pnII : plainName "java/lang/Integer" = true := by first | (simp [plainName, overriddenIn]; done) | decide +kernel
theorem pdII_0 : parseMethodDescriptor "()V" = some ⟨[], none⟩ := by decide +kernel
theorem efII (m : MethodId) (a1 : Addr) (p1 : Int32) : entryFrame m #[(.ref a1), (.int p1)] 2 = mkF m 0 #[.val (.ref a1), .val (.int p1)] [] := by first | (simp [entryFrame, mkF, argsToLocals, Value.category]; done) | rfl
def QII (Z : State) (a1 : Addr) (p1 : Int32) (h0 : Heap) (n0 : Nat) (v : Option Value) (h : Heap) (L : List Loc) : Prop := v = none ∧ Fr n0 L ∧ Keep h0 h [a1] ∧ Exa Z h a1 "java/lang/Integer"
set_option maxRecDepth 65536 in
set_option maxHeartbeats 40000000 in
theorem rmII (l : Launch) (Z : State) (a0 : Array Value) (hw : ∀ d ∈ tables_1, d.before a0 Z = true) (ws : List Jvm.Cond) (a1 : Addr) (p1 : Int32) (h0 : Heap) (n0 : Nat) (Z0 : n0 ≤ h0.size) (E1 : Exa Z h0 a1 "java/lang/Integer") (g_a1 : n0 ≤ a1) (F1 : Fld Z h0 a1 "java/lang/Integer" "value" "I" (.int 0)) :
    MetFree l (⟨"java/lang/Integer", "<init>", "(I)V"⟩ : MethodName) (head1 (Jvm.Cond.code (⟨"java/lang/Integer", "<init>", "(I)V"⟩ : MethodName) jdk_33_method_23_code 2 none :: ws) ({ frames := 2, cells := 0, slots := 0, locals := 24 } : Room)) (fun a U => a = #[(.ref a1), (.int p1)] ∧ Z.Warmed39 U.vm ∧ U.heap = h0) (fun _ _ _ _ _ => True) (fun _ U o U' => ∃ v L, o = .returned v ∧ QII Z a1 p1 h0 n0 v U'.heap L ∧ FrameEnd U o U' L ({ frames := 2, cells := 0, slots := 0, locals := 24 } : Room).cells ({ frames := 2, cells := 0, slots := 0, locals := 24 } : Room).slots) := by
  refine MetFree.of_bodySF (plainFor_of_name pnII) hisR ?_
  intro p e s m args below meth c s₁ Bd hml0 hP hK
  obtain ⟨rfl, hZ, hh⟩ := hP
  have hx := Bd.exec
  have hby := Bd.bytes
  have hml : c.maxLocals = 2 := hml0
  have hown : s.vm.findClass "java/lang/Integer" = some m.cls := findClass_of_methodNamed Bd.named
  have hnm := (name_of_methodNamed Bd.named Bd.method).1
  have X0 : Stand p l e ({ frames := 2, cells := 0, slots := 0, locals := 24 } : Room) s m #[(.ref a1), (.int p1)] below meth c s₁ [] 0 0 := Stand.of_body Bd
  have e0 : s₁.heap = h0 := by rw [← hh, Bd.state]; rfl
  have N0 := Fr.nil n0
  have pre0 : Go p e below s₁ (mkF m 0 #[.val (.ref a1), .val (.int p1)] []) s₁ (entryFrame m #[(.ref a1), (.int p1)] 2) := fun t k => castTop (efII m a1 p1) k
  have pre1 : Go p e below s₁ (mkF m 1 #[.val (.ref a1), .val (.int p1)] [(.ref a1)]) s₁ (entryFrame m #[(.ref a1), (.int p1)] 2) := fun t k => pre0 t (by
      show Steps p.tables e below (s₁.setTop (mkF m 0 #[.val (.ref a1), .val (.int p1)] [])) t
      refine XS.aloadN X0.here hx rfl (hb hby dII_0) rfl rfl ?_
      exact k)
  obtain ⟨_, _, ⟨T2, L2, k2, n2⟩, -, X2, ⟨Lc2, hQ2, l2, y2, z2⟩, st2⟩ := X0.specialBack hx (y := (⟨"java/lang/Number", "<init>", "()V"⟩ : MethodName)) rfl hown (mvT hZ (hw _ (List.mem_of_getElem? (i := 45) rfl))) (mvT hZ (hw _ (List.mem_of_getElem? (i := 46) rfl))) (mvT hZ (hw _ (List.mem_of_getElem? (i := 50) rfl))) (by decide) (backOf (W := 0) (rmNI l Z a0 hw [] a1 h0 n0 Z0) hZ (hw _ (List.mem_of_getElem? (i := 50) rfl)) (hw _ (List.mem_of_getElem? (i := 49) rfl)) (by decide) (by decide)) (g := (mkF m 1 #[.val (.ref a1), .val (.int p1)] [(.ref a1)])) rfl (by rw [hml]; rfl) (Steps.refl _) (a := a1) (argsL := []) (rest := []) (lenOf pdII_0 rfl) rfl (by show 2 * 0 + _ ≤ _; exact Nat.le_of_eq rfl) (hb hby dII_1) (fun _ _ => ⟨rfl, e0, (by decide : 0 + 0 ≤ _), (by decide : 0 + 0 ≤ _)⟩)
  dsimp only [Pt.U, Pt.locs, Pt.cells, Pt.slots] at X2 l2 y2 z2 st2 hQ2
  subst l2 y2 z2
  obtain ⟨rfl, N2q, hq2⟩ := hQ2
  have N2 := Fr.app N0 N2q
  have pre3 : Go p e below T2 (mkF m 4 #[.val (.ref a1), .val (.int p1)] []) s₁ (entryFrame m #[(.ref a1), (.int p1)] 2) := fun t k => pre1 t (st2.trans k)
  have e2 : T2.heap = h0 := hq2
  have pre4 : Go p e below T2 (mkF m 6 #[.val (.ref a1), .val (.int p1)] [(.int p1), (.ref a1)]) s₁ (entryFrame m #[(.ref a1), (.int p1)] 2) := fun t k => pre3 t (by
      show Steps p.tables e below (T2.setTop (mkF m 4 #[.val (.ref a1), .val (.int p1)] [])) t
      refine XS.aloadN X2.here hx rfl (hb hby dII_4) rfl rfl ?_
      show Steps p.tables e below (T2.setTop (mkF m 5 #[.val (.ref a1), .val (.int p1)] [(.ref a1)])) t
      refine XS.iloadN X2.here hx rfl (hb hby dII_5) rfl ?_
      exact k)
  obtain ⟨T5, h5, X5, e5, W5, st5⟩ := putF X2 hx hZ hown (host := "") (Or.inl (hw _ (List.mem_of_getElem? (i := 52) rfl))) Via.refl e2 F1 E1 (Or.inr ⟨(hw _ (List.mem_of_getElem? (i := 53) rfl)), rfl, hnm⟩) (hw _ (List.mem_of_getElem? (i := 40) rfl)) (ty := .int) (by decide) rfl rfl (g := (mkF m 6 #[.val (.ref a1), .val (.int p1)] [(.int p1), (.ref a1)])) rfl rfl (hb hby dII_6)
  have pre6 : Go p e below T5 (mkF m 9 #[.val (.ref a1), .val (.int p1)] []) s₁ (entryFrame m #[(.ref a1), (.int p1)] 2) := fun t k => pre4 t (st5 t k)
  have Z7 : n0 ≤ h5.size := Nat.le_trans Z0 (Keep.of_wr W5).1
  have K7 : Keep h0 h5 [a1] := (Keep.refl h0 [a1]).wr W5 (Or.inl (List.mem_of_getElem? (i := 0) rfl))
  have Fw5 := Fld.same W5 F1
  have N5 := Fr.snoc X5 N2 g_a1
  obtain ⟨fs, hr, hrun, hended, hW, hsame⟩ := X5.leave (v := none) (fun _ => rfl)
  refine ⟨_, _, pre6 _ (X5.returnOut hx Bd.returns (hb hby dII_9) hr), hrun, hended, _, _, rfl, ?_, ⟨_, rfl⟩, hW, hsame.mono (by decide) (by decide)⟩
  show QII Z a1 p1 h0 n0 _ T5.heap _
  rw [e5]
  exact ⟨rfl, N5, K7, (E1.wr W5)⟩
theorem dVO_0 : decode jdk_33_method_22_code 0 = .ok (.iload_n 0, 1) := by decide +kernel
theorem dVO_1 : decode jdk_33_method_22_code 1 = .ok (.bipush (-128), 2) := by decide +kernel
theorem dVO_3 : decode jdk_33_method_22_code 3 = .ok (.if_icmp .lt 20, 3) := by decide +kernel
theorem dVO_6 : decode jdk_33_method_22_code 6 = .ok (.iload_n 0, 1) := by decide +kernel
theorem dVO_7 : decode jdk_33_method_22_code 7 = .ok (.getstatic 191, 3) := by decide +kernel
theorem dVO_10 : decode jdk_33_method_22_code 10 = .ok (.if_icmp .gt 13, 3) := by decide +kernel
theorem dVO_13 : decode jdk_33_method_22_code 13 = .ok (.getstatic 195, 3) := by decide +kernel
theorem dVO_16 : decode jdk_33_method_22_code 16 = .ok (.iload_n 0, 1) := by decide +kernel
theorem dVO_17 : decode jdk_33_method_22_code 17 = .ok (.sipush 128, 3) := by decide +kernel
theorem dVO_20 : decode jdk_33_method_22_code 20 = .ok (.iadd, 1) := by decide +kernel
theorem dVO_21 : decode jdk_33_method_22_code 21 = .ok (.aaload, 1) := by decide +kernel
theorem dVO_22 : decode jdk_33_method_22_code 22 = .ok (.areturn, 1) := by decide +kernel
theorem dVO_23 : decode jdk_33_method_22_code 23 = .ok (.new 1, 3) := by decide +kernel
theorem dVO_26 : decode jdk_33_method_22_code 26 = .ok (.dup, 1) := by decide +kernel
theorem dVO_27 : decode jdk_33_method_22_code 27 = .ok (.iload_n 0, 1) := by decide +kernel
theorem dVO_28 : decode jdk_33_method_22_code 28 = .ok (.invokespecial 199, 3) := by decide +kernel
theorem dVO_31 : decode jdk_33_method_22_code 31 = .ok (.areturn, 1) := by decide +kernel
theorem pnVO : plainName "java/lang/Integer" = true := by first | (simp [plainName, overriddenIn]; done) | decide +kernel
theorem pdVO_0 : parseMethodDescriptor "(I)V" = some ⟨[.int], none⟩ := by decide +kernel
theorem efVO (m : MethodId) (p1 : Int32) : entryFrame m #[(.int p1)] 1 = mkF m 0 #[.val (.int p1)] [] := by first | (simp [entryFrame, mkF, argsToLocals, Value.category]; done) | rfl
def QVO (Z : State) (p1 : Int32) (ca : Addr) (cl : Cell) (h0 : Heap) (n0 : Nat) (v : Option Value) (h : Heap) (L : List Loc) : Prop := ∃ b, v = some (.ref b) ∧ Fr n0 L ∧ Keep h0 h [] ∧ Exa Z h b "java/lang/Integer"
set_option maxRecDepth 65536 in
set_option maxHeartbeats 40000000 in
theorem rmVO (l : Launch) (Z : State) (a0 : Array Value) (hw : ∀ d ∈ tables_1, d.before a0 Z = true) (ws : List Jvm.Cond) (p1 : Int32) (ca : Addr) (cl : Cell) (h0 : Heap) (n0 : Nat) (Z0 : n0 ≤ h0.size) (O0 : Old Z n0 h0) (S0 : Sta Z Z.heap "java/lang/Integer$IntegerCache" "high" "I" (.int 127)) (S1 : Sta Z Z.heap "java/lang/Integer$IntegerCache" "cache" "[Ljava/lang/Integer;" (.ref ca)) (Ar : Arr Z Z.heap ca cl (.object "java/lang/Integer")) (Sz : cl.slots.size = (256 : Int32).toNatClampNeg) (hel : ∀ j : Int32, ¬ (j < 0 ∨ cl.slots.size ≤ j.toNatClampNeg) → ∃ b, cl.slots[j.toNatClampNeg]? = some (.ref b) ∧ Exa Z Z.heap b "java/lang/Integer") (hp : 0 < p1) :
    MetFree l (⟨"java/lang/Integer", "valueOf", "(I)Ljava/lang/Integer;"⟩ : MethodName) (head1 (Jvm.Cond.code (⟨"java/lang/Integer", "valueOf", "(I)Ljava/lang/Integer;"⟩ : MethodName) jdk_33_method_22_code 1 (some (.object "java/lang/Integer")) :: ws) ({ frames := 3, cells := 1, slots := 1, locals := 38 } : Room)) (fun a U => a = #[(.int p1)] ∧ Z.Warmed39 U.vm ∧ U.heap = h0) (fun _ _ _ _ _ => True) (fun _ U o U' => ∃ v L, o = .returned v ∧ QVO Z p1 ca cl h0 n0 v U'.heap L ∧ FrameEnd U o U' L ({ frames := 3, cells := 1, slots := 1, locals := 38 } : Room).cells ({ frames := 3, cells := 1, slots := 1, locals := 38 } : Room).slots) := by
  refine MetFree.of_bodySF (plainFor_of_name pnVO) hisR ?_
  intro p e s m args below meth c s₁ Bd hml0 hP hK
  obtain ⟨rfl, hZ, hh⟩ := hP
  have hx := Bd.exec
  have hby := Bd.bytes
  have hml : c.maxLocals = 1 := hml0
  have hown : s.vm.findClass "java/lang/Integer" = some m.cls := findClass_of_methodNamed Bd.named
  have hnm := (name_of_methodNamed Bd.named Bd.method).1
  have X0 : Stand p l e ({ frames := 3, cells := 1, slots := 1, locals := 38 } : Room) s m #[(.int p1)] below meth c s₁ [] 0 0 := Stand.of_body Bd
  have e0 : s₁.heap = h0 := by rw [← hh, Bd.state]; rfl
  have N0 := Fr.nil n0
  have pre0 : Go p e below s₁ (mkF m 0 #[.val (.int p1)] []) s₁ (entryFrame m #[(.int p1)] 1) := fun t k => castTop (efVO m p1) k
  have pre1 : Go p e below s₁ (mkF m 3 #[.val (.int p1)] [(.int (-128 : Int32)), (.int p1)]) s₁ (entryFrame m #[(.int p1)] 1) := fun t k => pre0 t (by
      show Steps p.tables e below (s₁.setTop (mkF m 0 #[.val (.int p1)] [])) t
      refine XS.iloadN X0.here hx rfl (hb hby dVO_0) rfl ?_
      show Steps p.tables e below (s₁.setTop (mkF m 1 #[.val (.int p1)] [(.int p1)])) t
      refine XS.bipush X0.here hx rfl (hb hby dVO_1) ?_
      exact k)
  by_cases hc3 : p1 < (-128 : Int32)
  · exfalso
    have e0 : (0 : Int32).toInt = 0 := by decide
    have e1 : (-128 : Int32).toInt = -128 := by decide
    simp only [Int32.lt_iff_toInt_lt, e0, e1] at hp hc3
    omega
  · have pre2 : Go p e below s₁ (mkF m 6 #[.val (.int p1)] []) s₁ (entryFrame m #[(.int p1)] 1) := fun t k => pre1 t (XS.icmpNo X0.here hx rfl (hb hby dVO_3) rfl (flt hc3).1 k)
    have pre3 : Go p e below s₁ (mkF m 7 #[.val (.int p1)] [(.int p1)]) s₁ (entryFrame m #[(.int p1)] 1) := fun t k => pre2 t (by
        show Steps p.tables e below (s₁.setTop (mkF m 6 #[.val (.int p1)] [])) t
        refine XS.iloadN X0.here hx rfl (hb hby dVO_6) rfl ?_
        exact k)
    obtain ⟨T4, X4, e4, st4⟩ := getS2 X0 hx hZ hown (host := "") (Or.inl (hw _ (List.mem_of_getElem? (i := 33) rfl))) Via.refl e0 (S0.ext O0.2) (g := (mkF m 7 #[.val (.int p1)] [(.int p1)])) rfl (hb hby dVO_7)
    have pre5 : Go p e below T4 (mkF m 10 #[.val (.int p1)] [(.int (127 : Int32)), (.int p1)]) s₁ (entryFrame m #[(.int p1)] 1) := fun t k => pre3 t (st4 t k)
    by_cases hc10 : (127 : Int32) < p1
    · have pre6 : Go p e below T4 (mkF m 23 #[.val (.int p1)] []) s₁ (entryFrame m #[(.int p1)] 1) := fun t k => pre5 t (XS.icmpYes X4.here hx rfl (pc0 := 10) (pc' := 23) rfl (hb hby dVO_10) rfl (tlt hc10).2.2.1 (by decide) (by decide) k)
      obtain ⟨T7, h7, X7, e7, Et7, A7, D7, U7, st7⟩ := newO X4 hx hZ hown (hw _ (List.mem_of_getElem? (i := 39) rfl)) (hw _ (List.mem_of_getElem? (i := 40) rfl)) (hw _ (List.mem_of_getElem? (i := 31) rfl)) e4 (g := (mkF m 23 #[.val (.int p1)] [])) rfl (hb hby dVO_23) (by decide) (by decide)
      obtain ⟨b7, g7⟩ : ∃ z, z = h0.size := ⟨_, rfl⟩
      rw [← g7] at A7 st7 D7
      have g_b7 : n0 ≤ b7 := Nat.le_trans Z0 (Nat.le_of_eq g7.symm)
      have sz_b7 : h0.size ≤ b7 := Nat.le_trans (Keep.refl h0 []).1 (Nat.le_of_eq g7.symm)
      have pre8 : Go p e below T7 (mkF m 26 #[.val (.int p1)] [(.ref b7)]) s₁ (entryFrame m #[(.int p1)] 1) := fun t k => pre6 t (st7 t k)
      have O9 : Old Z n0 h7 := O0.ext Et7
      have Z9 : n0 ≤ h7.size := Nat.le_trans Z0 Et7.1
      have K9 : Keep h0 h7 [] := (Keep.refl h0 []).ext Et7
      have F_value_b7 : Fld Z h7 b7 "java/lang/Integer" "value" "I" (.int (0 : Int32)) := D7 (Or.inr (hw _ (List.mem_of_getElem? (i := 53) rfl))) (ty := .int) (by decide)
      have pre10 : Go p e below T7 (mkF m 28 #[.val (.int p1)] [(.int p1), (.ref b7), (.ref b7)]) s₁ (entryFrame m #[(.int p1)] 1) := fun t k => pre8 t (by
          show Steps p.tables e below (T7.setTop (mkF m 26 #[.val (.int p1)] [(.ref b7)])) t
          refine XS.dup X7.here hx rfl (hb hby dVO_26) rfl rfl ?_
          show Steps p.tables e below (T7.setTop (mkF m 27 #[.val (.int p1)] [(.ref b7), (.ref b7)])) t
          refine XS.iloadN X7.here hx rfl (hb hby dVO_27) rfl ?_
          exact k)
      obtain ⟨_, _, ⟨T11, L11, k11, n11⟩, -, X11, ⟨Lc11, hQ11, l11, y11, z11⟩, st11⟩ := X7.specialBack hx (y := (⟨"java/lang/Integer", "<init>", "(I)V"⟩ : MethodName)) rfl hown (mvT hZ (hw _ (List.mem_of_getElem? (i := 41) rfl))) (mvT hZ (hw _ (List.mem_of_getElem? (i := 42) rfl))) (mvT hZ (hw _ (List.mem_of_getElem? (i := 44) rfl))) (by decide) (backOf (W := 1) (rmII l Z a0 hw [] b7 p1 h7 n0 Z9 A7 g_b7 F_value_b7) hZ (hw _ (List.mem_of_getElem? (i := 44) rfl)) (hw _ (List.mem_of_getElem? (i := 31) rfl)) (by decide) (by decide)) (g := (mkF m 28 #[.val (.int p1)] [(.int p1), (.ref b7), (.ref b7)])) rfl (by rw [hml]; rfl) (Steps.refl _) (a := b7) (argsL := [(.int p1)]) (rest := [(.ref b7)]) (lenOf pdVO_0 rfl) rfl (by show 2 * 0 + _ ≤ _; exact Nat.le_of_eq rfl) (hb hby dVO_28) (fun _ _ => ⟨rfl, e7, (by decide : 1 + 0 ≤ _), (by decide : 1 + 0 ≤ _)⟩)
      dsimp only [Pt.U, Pt.locs, Pt.cells, Pt.slots] at X11 l11 y11 z11 st11 hQ11
      subst l11 y11 z11
      obtain ⟨rfl, N11q, K11, EX11⟩ := hQ11
      have N11 := Fr.app N0 N11q
      have pre12 : Go p e below T11 (mkF m 31 #[.val (.int p1)] [(.ref b7)]) s₁ (entryFrame m #[(.int p1)] 1) := fun t k => pre10 t (st11.trans k)
      have O13 : Old Z n0 T11.heap := O9.keep K11 (allS g_b7 all0)
      have Z13 : n0 ≤ T11.heap.size := Nat.le_trans Z9 K11.1
      have K13 : Keep h0 T11.heap [] := K9.trans K11 (allS (Or.inr sz_b7) all0)
      obtain ⟨fs, hr, hrun, hended, hW, hsame⟩ := X11.leave (v := some (.ref b7)) (fun h => by rw [Bd.returns] at h; cases h)
      refine ⟨_, _, pre12 _ (retOut X11 hx Bd.returns rfl (Or.inr (Or.inr (Or.inr (Or.inr ⟨rfl, rfl, rfl⟩)))) (hb hby dVO_31) hr), hrun, hended, _, _, rfl, ?_, ⟨_, rfl⟩, hW, hsame.mono (by decide) (by decide)⟩
      show QVO Z p1 ca cl h0 n0 _ T11.heap _
      exact ⟨_, rfl, N11, K13, EX11⟩
    · have pre14 : Go p e below T4 (mkF m 13 #[.val (.int p1)] []) s₁ (entryFrame m #[(.int p1)] 1) := fun t k => pre5 t (XS.icmpNo X4.here hx rfl (hb hby dVO_10) rfl (flt hc10).2.2.1 k)
      obtain ⟨T15, X15, e15, st15⟩ := getS2 X4 hx hZ hown (host := "") (Or.inl (hw _ (List.mem_of_getElem? (i := 35) rfl))) Via.refl e4 (S1.ext O0.2) (g := (mkF m 13 #[.val (.int p1)] [])) rfl (hb hby dVO_13)
      have pre16 : Go p e below T15 (mkF m 16 #[.val (.int p1)] [(.ref ca)]) s₁ (entryFrame m #[(.int p1)] 1) := fun t k => pre14 t (st15 t k)
      have pre17 : Go p e below T15 (mkF m 21 #[.val (.int p1)] [(.int (p1 + (128 : Int32))), (.ref ca)]) s₁ (entryFrame m #[(.int p1)] 1) := fun t k => pre16 t (by
          show Steps p.tables e below (T15.setTop (mkF m 16 #[.val (.int p1)] [(.ref ca)])) t
          refine XS.iloadN X15.here hx rfl (hb hby dVO_16) rfl ?_
          show Steps p.tables e below (T15.setTop (mkF m 17 #[.val (.int p1)] [(.int p1), (.ref ca)])) t
          refine XS.sipush X15.here hx rfl (hb hby dVO_17) ?_
          show Steps p.tables e below (T15.setTop (mkF m 20 #[.val (.int p1)] [(.int (128 : Int32)), (.int p1), (.ref ca)])) t
          refine XS.iadd X15.here hx rfl (hb hby dVO_20) rfl ?_
          exact k)
      have e0 : (0 : Int32).toInt = 0 := by decide
      have e128 : (128 : Int32).toInt = 128 := by decide
      have e127 : (127 : Int32).toInt = 127 := by decide
      have e256 : (256 : Int32).toInt = 256 := by decide
      have hin : ¬ ((p1 + (128 : Int32)) < 0 ∨ cl.slots.size ≤ ((p1 + (128 : Int32))).toNatClampNeg) := inb_of Sz (by
        have q := c_iadd p1 128
        have q2 := rng32 (p1 + 128)
        simp only [Int32.lt_iff_toInt_lt, e0, e127, e128, e256] at hp hc10 q ⊢
        omega)
      obtain ⟨b, hat, Eb⟩ := hel _ hin
      have pre18 : Go p e below T15 (mkF m 22 #[.val (.int p1)] [(.ref b)]) s₁ (entryFrame m #[(.int p1)] 1) := fun t k => pre17 t (by
          show Steps p.tables e below (T15.setTop (mkF m 21 #[.val (.int p1)] [(.int (p1 + (128 : Int32))), (.ref ca)])) t
          refine X15.aaload hx (j := (p1 + (128 : Int32))) (v := .ref b) (by rw [e15]; exact (Ar.ext O0.2).1) (State.isArrayOf_alike hZ.alike Ar.2.1) rfl Ar.2.2 hin hat (g := (mkF m 21 #[.val (.int p1)] [(.int (p1 + (128 : Int32))), (.ref ca)])) rfl rfl (hb hby dVO_21) _ ?_
          exact k)
      obtain ⟨fs, hr, hrun, hended, hW, hsame⟩ := X15.leave (v := some (.ref b)) (fun h => by rw [Bd.returns] at h; cases h)
      refine ⟨_, _, pre18 _ (retOut X15 hx Bd.returns rfl (Or.inr (Or.inr (Or.inr (Or.inr ⟨rfl, rfl, rfl⟩)))) (hb hby dVO_22) hr), hrun, hended, _, _, rfl, ?_, ⟨_, rfl⟩, hW, hsame.mono (by decide) (by decide)⟩
      show QVO Z p1 ca cl h0 n0 _ T15.heap _
      rw [e15]
      exact ⟨_, rfl, N0, Keep.refl h0 [], (Eb.ext O0.2)⟩
theorem pnL : plainName "com/example/vetter/vetter/profile/ResolutionEqualsPinLaw" = true := by first | (simp [plainName, overriddenIn]; done) | decide +kernel
theorem pdL_0 : parseMethodDescriptor "(I)I" = some ⟨[.int], some .int⟩ := by decide +kernel
theorem pdL_1 : parseMethodDescriptor "(II)V" = some ⟨[.int, .int], none⟩ := by decide +kernel
theorem pdL_2 : parseMethodDescriptor "(Ljava/lang/Object;)Z" = some ⟨[(.object "java/lang/Object")], some .boolean⟩ := by decide +kernel
theorem pdL_3 : parseMethodDescriptor "(I)Ljava/lang/Integer;" = some ⟨[.int], some (.object "java/lang/Integer")⟩ := by decide +kernel
theorem efL (m : MethodId) (p1 : Int32) (p2 : Int32) (p3 : Int32) (p4 : Int32) (p5 : Int32) : entryFrame m #[(.int p1), (.int p2), (.int p3), (.int p4), (.int p5)] maxLocals = mkF m 0 #[.val (.int p1), .val (.int p2), .val (.int p3), .val (.int p4), .val (.int p5), .unset, .unset, .unset, .unset, .unset, .unset, .unset, .unset, .unset] [] := by first | (simp [entryFrame, mkF, argsToLocals, Value.category, maxLocals]; done) | rfl
def QL (Z : State) (p1 : Int32) (p2 : Int32) (p3 : Int32) (p4 : Int32) (p5 : Int32) (ca : Addr) (cl : Cell) (h0 : Heap) (n0 : Nat) (v : Option Value) (h : Heap) (L : List Loc) : Prop := v = some (.int 1) ∧ Fr n0 L
set_option maxRecDepth 65536 in
set_option maxHeartbeats 40000000 in
theorem rmL (l : Launch) (Z : State) (a0 : Array Value) (hw : ∀ d ∈ tables_1, d.before a0 Z = true) (ws : List Jvm.Cond) (p1 : Int32) (p2 : Int32) (p3 : Int32) (p4 : Int32) (p5 : Int32) (ca : Addr) (cl : Cell) (h0 : Heap) (n0 : Nat) (Z0 : n0 ≤ h0.size) (O0 : Old Z n0 h0) (S0 : Sta Z Z.heap "java/lang/Integer$IntegerCache" "high" "I" (.int 127)) (S1 : Sta Z Z.heap "java/lang/Integer$IntegerCache" "cache" "[Ljava/lang/Integer;" (.ref ca)) (Ar : Arr Z Z.heap ca cl (.object "java/lang/Integer")) (Sz : cl.slots.size = (256 : Int32).toNatClampNeg) (hel : ∀ j : Int32, ¬ (j < 0 ∨ cl.slots.size ≤ j.toNatClampNeg) → ∃ b, cl.slots[j.toNatClampNeg]? = some (.ref b) ∧ Exa Z Z.heap b "java/lang/Integer") :
    MetFree l x (head1 (Jvm.Cond.code x code maxLocals ret :: ws) room_1) (fun a U => a = #[(.int p1), (.int p2), (.int p3), (.int p4), (.int p5)] ∧ Z.Warmed39 U.vm ∧ U.heap = h0) (fun _ _ _ _ _ => True) (fun _ U o U' => ∃ v L, o = .returned v ∧ QL Z p1 p2 p3 p4 p5 ca cl h0 n0 v U'.heap L ∧ FrameEnd U o U' L room_1.cells room_1.slots) := by
  refine MetFree.of_bodySF (plainFor_of_name pnL) hisR ?_
  intro p e s m args below meth c s₁ Bd hml0 hP hK
  obtain ⟨rfl, hZ, hh⟩ := hP
  have hx := Bd.exec
  have hby := Bd.bytes
  have hml : c.maxLocals = 14 := hml0
  have hown : s.vm.findClass "com/example/vetter/vetter/profile/ResolutionEqualsPinLaw" = some m.cls := findClass_of_methodNamed Bd.named
  have hnm := (name_of_methodNamed Bd.named Bd.method).1
  have X0 : Stand p l e room_1 s m #[(.int p1), (.int p2), (.int p3), (.int p4), (.int p5)] below meth c s₁ [] 0 0 := Stand.of_body Bd
  have e0 : s₁.heap = h0 := by rw [← hh, Bd.state]; rfl
  have N0 := Fr.nil n0
  have pre0 : Go p e below s₁ (mkF m 0 #[.val (.int p1), .val (.int p2), .val (.int p3), .val (.int p4), .val (.int p5), .unset, .unset, .unset, .unset, .unset, .unset, .unset, .unset, .unset] []) s₁ (entryFrame m #[(.int p1), (.int p2), (.int p3), (.int p4), (.int p5)] maxLocals) := fun t k => castTop (efL m p1 p2 p3 p4 p5) k
  have pre1 : Go p e below s₁ (mkF m 1 #[.val (.int p1), .val (.int p2), .val (.int p3), .val (.int p4), .val (.int p5), .unset, .unset, .unset, .unset, .unset, .unset, .unset, .unset, .unset] [(.int p1)]) s₁ (entryFrame m #[(.int p1), (.int p2), (.int p3), (.int p4), (.int p5)] maxLocals) := fun t k => pre0 t (by
      show Steps p.tables e below (s₁.setTop (mkF m 0 #[.val (.int p1), .val (.int p2), .val (.int p3), .val (.int p4), .val (.int p5), .unset, .unset, .unset, .unset, .unset, .unset, .unset, .unset, .unset] [])) t
      refine XS.iloadN X0.here hx rfl (hb hby at_0) rfl ?_
      exact k)
  obtain ⟨_, _, ⟨T2, L2, k2, n2⟩, -, X2, ⟨Lc2, hQ2, l2, y2, z2⟩, st2⟩ := Jvm.LawKit.callS X0 hx (y := (⟨"com/example/vetter/vetter/profile/ResolutionEqualsPinLaw", "side", "(I)I"⟩ : MethodName)) hown (mvT hZ (hw _ (List.mem_of_getElem? (i := 0) rfl))) (mvT hZ (hw _ (List.mem_of_getElem? (i := 1) rfl))) (mvT hZ (hw _ (List.mem_of_getElem? (i := 2) rfl))) (mvT hZ (hw _ (List.mem_of_getElem? (i := 3) rfl))) (by decide) (backOf (W := 0) (rmS l Z a0 hw [] p1 (sideF p1) h0 n0 Z0 rfl) hZ (hw _ (List.mem_of_getElem? (i := 3) rfl)) (hw _ (List.mem_of_getElem? (i := 2) rfl)) (by decide) (by decide)) (g := (mkF m 1 #[.val (.int p1), .val (.int p2), .val (.int p3), .val (.int p4), .val (.int p5), .unset, .unset, .unset, .unset, .unset, .unset, .unset, .unset, .unset] [(.int p1)])) rfl (by rw [hml]; rfl) (argsL := [(.int p1)]) (rest := []) (lenOf pdL_0 rfl) rfl (by show 2 * 0 + _ ≤ _; exact Nat.le_of_eq rfl) (hb hby at_1) (fun _ _ => ⟨rfl, e0, (by decide : 0 + 0 ≤ _), (by decide : 0 + 0 ≤ _)⟩)
  dsimp only [Pt.U, Pt.locs, Pt.cells, Pt.slots] at X2 l2 y2 z2 st2 hQ2
  subst l2 y2 z2
  obtain ⟨rfl, N2q, hq2⟩ := hQ2
  have N2 := Fr.app N0 N2q
  have pre3 : Go p e below T2 (mkF m 4 #[.val (.int p1), .val (.int p2), .val (.int p3), .val (.int p4), .val (.int p5), .unset, .unset, .unset, .unset, .unset, .unset, .unset, .unset, .unset] [(.int (sideF p1))]) s₁ (entryFrame m #[(.int p1), (.int p2), (.int p3), (.int p4), (.int p5)] maxLocals) := fun t k => pre1 t (st2 t k)
  have e2 : T2.heap = h0 := hq2
  obtain ⟨w1, e_w1⟩ : ∃ z : Int32, z = (sideF p1) := ⟨_, rfl⟩
  have pre4 : Go p e below T2 (mkF m 7 #[.val (.int p1), .val (.int p2), .val (.int p3), .val (.int p4), .val (.int p5), .val (.int w1), .unset, .unset, .unset, .unset, .unset, .unset, .unset, .unset] [(.int p2)]) s₁ (entryFrame m #[(.int p1), (.int p2), (.int p3), (.int p4), (.int p5)] maxLocals) := fun t k => pre3 t (by
      show Steps p.tables e below (T2.setTop (mkF m 4 #[.val (.int p1), .val (.int p2), .val (.int p3), .val (.int p4), .val (.int p5), .unset, .unset, .unset, .unset, .unset, .unset, .unset, .unset, .unset] [(.int (sideF p1))])) t
      refine XS.istore X2.here hx rfl (hb hby at_4) rfl (l' := #[.val (.int p1), .val (.int p2), .val (.int p3), .val (.int p4), .val (.int p5), .val (.int w1), .unset, .unset, .unset, .unset, .unset, .unset, .unset, .unset]) (by rw [e_w1]; rfl) ?_
      show Steps p.tables e below (T2.setTop (mkF m 6 #[.val (.int p1), .val (.int p2), .val (.int p3), .val (.int p4), .val (.int p5), .val (.int w1), .unset, .unset, .unset, .unset, .unset, .unset, .unset, .unset] [])) t
      refine XS.iloadN X2.here hx rfl (hb hby at_6) rfl ?_
      exact k)
  obtain ⟨_, _, ⟨T5, L5, k5, n5⟩, -, X5, ⟨Lc5, hQ5, l5, y5, z5⟩, st5⟩ := Jvm.LawKit.callS X2 hx (y := (⟨"com/example/vetter/vetter/profile/ResolutionEqualsPinLaw", "side", "(I)I"⟩ : MethodName)) hown (mvT hZ (hw _ (List.mem_of_getElem? (i := 0) rfl))) (mvT hZ (hw _ (List.mem_of_getElem? (i := 1) rfl))) (mvT hZ (hw _ (List.mem_of_getElem? (i := 2) rfl))) (mvT hZ (hw _ (List.mem_of_getElem? (i := 3) rfl))) (by decide) (backOf (W := 0) (rmS l Z a0 hw [] p2 (sideF p2) h0 n0 Z0 rfl) hZ (hw _ (List.mem_of_getElem? (i := 3) rfl)) (hw _ (List.mem_of_getElem? (i := 2) rfl)) (by decide) (by decide)) (g := (mkF m 7 #[.val (.int p1), .val (.int p2), .val (.int p3), .val (.int p4), .val (.int p5), .val (.int w1), .unset, .unset, .unset, .unset, .unset, .unset, .unset, .unset] [(.int p2)])) rfl (by rw [hml]; rfl) (argsL := [(.int p2)]) (rest := []) (lenOf pdL_0 rfl) rfl (by show 2 * 0 + _ ≤ _; exact Nat.le_of_eq rfl) (hb hby at_7) (fun _ _ => ⟨rfl, e2, (by decide : 0 + 0 ≤ _), (by decide : 0 + 0 ≤ _)⟩)
  dsimp only [Pt.U, Pt.locs, Pt.cells, Pt.slots] at X5 l5 y5 z5 st5 hQ5
  subst l5 y5 z5
  obtain ⟨rfl, N5q, hq5⟩ := hQ5
  have N5 := Fr.app N2 N5q
  have pre6 : Go p e below T5 (mkF m 10 #[.val (.int p1), .val (.int p2), .val (.int p3), .val (.int p4), .val (.int p5), .val (.int w1), .unset, .unset, .unset, .unset, .unset, .unset, .unset, .unset] [(.int (sideF p2))]) s₁ (entryFrame m #[(.int p1), (.int p2), (.int p3), (.int p4), (.int p5)] maxLocals) := fun t k => pre4 t (st5 t k)
  have e5 : T5.heap = h0 := hq5
  obtain ⟨h1, e_h1⟩ : ∃ z : Int32, z = (sideF p2) := ⟨_, rfl⟩
  have pre7 : Go p e below T5 (mkF m 12 #[.val (.int p1), .val (.int p2), .val (.int p3), .val (.int p4), .val (.int p5), .val (.int w1), .val (.int h1), .unset, .unset, .unset, .unset, .unset, .unset, .unset] []) s₁ (entryFrame m #[(.int p1), (.int p2), (.int p3), (.int p4), (.int p5)] maxLocals) := fun t k => pre6 t (by
      show Steps p.tables e below (T5.setTop (mkF m 10 #[.val (.int p1), .val (.int p2), .val (.int p3), .val (.int p4), .val (.int p5), .val (.int w1), .unset, .unset, .unset, .unset, .unset, .unset, .unset, .unset] [(.int (sideF p2))])) t
      refine XS.istore X5.here hx rfl (hb hby at_10) rfl (l' := #[.val (.int p1), .val (.int p2), .val (.int p3), .val (.int p4), .val (.int p5), .val (.int w1), .val (.int h1), .unset, .unset, .unset, .unset, .unset, .unset, .unset]) (by rw [e_h1]; rfl) ?_
      exact k)
  have pw1 : 0 < w1 := by rw [e_w1]; exact own_side _
  have ph1 : 0 < h1 := by rw [e_h1]; exact own_side _
  obtain ⟨T8, LJ8, w2, h2, X8, N8, e8, hj8_0, hj8_1, pre8⟩ : ∃ (TJ : State) (LJ : List Loc) (w2 : Int32) (h2 : Int32), Stand p l e room_1 s m #[(.int p1), (.int p2), (.int p3), (.int p4), (.int p5)] below meth c TJ LJ 0 0 ∧ Fr n0 LJ ∧ TJ.heap = h0 ∧ 0 < w2 ∧ 0 < h2 ∧ Go p e below TJ (mkF m 63 #[.val (.int p1), .val (.int p2), .val (.int p3), .val (.int p4), .val (.int p5), .val (.int w1), .val (.int h1), .val (.int w2), .val (.int h2), .unset, .unset, .unset, .unset, .unset] []) s₁ (entryFrame m #[(.int p1), (.int p2), (.int p3), (.int p4), (.int p5)] maxLocals) := by
    have pre9 : Go p e below T5 (mkF m 16 #[.val (.int p1), .val (.int p2), .val (.int p3), .val (.int p4), .val (.int p5), .val (.int w1), .val (.int h1), .unset, .unset, .unset, .unset, .unset, .unset, .unset] [(.int (p5 &&& (1 : Int32)))]) s₁ (entryFrame m #[(.int p1), (.int p2), (.int p3), (.int p4), (.int p5)] maxLocals) := fun t k => pre7 t (by
        show Steps p.tables e below (T5.setTop (mkF m 12 #[.val (.int p1), .val (.int p2), .val (.int p3), .val (.int p4), .val (.int p5), .val (.int w1), .val (.int h1), .unset, .unset, .unset, .unset, .unset, .unset, .unset] [])) t
        refine XS.iload X5.here hx rfl (hb hby at_12) rfl ?_
        show Steps p.tables e below (T5.setTop (mkF m 14 #[.val (.int p1), .val (.int p2), .val (.int p3), .val (.int p4), .val (.int p5), .val (.int w1), .val (.int h1), .unset, .unset, .unset, .unset, .unset, .unset, .unset] [(.int p5)])) t
        refine XS.iconst X5.here hx rfl (hb hby at_14) ?_
        show Steps p.tables e below (T5.setTop (mkF m 15 #[.val (.int p1), .val (.int p2), .val (.int p3), .val (.int p4), .val (.int p5), .val (.int w1), .val (.int h1), .unset, .unset, .unset, .unset, .unset, .unset, .unset] [(.int (1 : Int32)), (.int p5)])) t
        refine XS.iand X5.here hx rfl (hb hby at_15) rfl ?_
        exact k)
    by_cases hc16 : (p5 &&& (1 : Int32)) = (0 : Int32)
    · have pre10 : Go p e below T5 (mkF m 24 #[.val (.int p1), .val (.int p2), .val (.int p3), .val (.int p4), .val (.int p5), .val (.int w1), .val (.int h1), .unset, .unset, .unset, .unset, .unset, .unset, .unset] []) s₁ (entryFrame m #[(.int p1), (.int p2), (.int p3), (.int p4), (.int p5)] maxLocals) := fun t k => pre9 t (XS.ifYes X5.here hx rfl (pc0 := 16) (pc' := 24) rfl (hb hby at_16) rfl ((if0 _ _).trans (teq hc16).1) (by decide) (by decide) k)
      have pre11 : Go p e below T5 (mkF m 25 #[.val (.int p1), .val (.int p2), .val (.int p3), .val (.int p4), .val (.int p5), .val (.int w1), .val (.int h1), .unset, .unset, .unset, .unset, .unset, .unset, .unset] [(.int p3)]) s₁ (entryFrame m #[(.int p1), (.int p2), (.int p3), (.int p4), (.int p5)] maxLocals) := fun t k => pre10 t (by
          show Steps p.tables e below (T5.setTop (mkF m 24 #[.val (.int p1), .val (.int p2), .val (.int p3), .val (.int p4), .val (.int p5), .val (.int w1), .val (.int h1), .unset, .unset, .unset, .unset, .unset, .unset, .unset] [])) t
          refine XS.iloadN X5.here hx rfl (hb hby at_24) rfl ?_
          exact k)
      obtain ⟨_, _, ⟨T12, L12, k12, n12⟩, -, X12, ⟨Lc12, hQ12, l12, y12, z12⟩, st12⟩ := Jvm.LawKit.callS X5 hx (y := (⟨"com/example/vetter/vetter/profile/ResolutionEqualsPinLaw", "side", "(I)I"⟩ : MethodName)) hown (mvT hZ (hw _ (List.mem_of_getElem? (i := 0) rfl))) (mvT hZ (hw _ (List.mem_of_getElem? (i := 1) rfl))) (mvT hZ (hw _ (List.mem_of_getElem? (i := 2) rfl))) (mvT hZ (hw _ (List.mem_of_getElem? (i := 3) rfl))) (by decide) (backOf (W := 0) (rmS l Z a0 hw [] p3 (sideF p3) h0 n0 Z0 rfl) hZ (hw _ (List.mem_of_getElem? (i := 3) rfl)) (hw _ (List.mem_of_getElem? (i := 2) rfl)) (by decide) (by decide)) (g := (mkF m 25 #[.val (.int p1), .val (.int p2), .val (.int p3), .val (.int p4), .val (.int p5), .val (.int w1), .val (.int h1), .unset, .unset, .unset, .unset, .unset, .unset, .unset] [(.int p3)])) rfl (by rw [hml]; rfl) (argsL := [(.int p3)]) (rest := []) (lenOf pdL_0 rfl) rfl (by show 2 * 0 + _ ≤ _; exact Nat.le_of_eq rfl) (hb hby at_25) (fun _ _ => ⟨rfl, e5, (by decide : 0 + 0 ≤ _), (by decide : 0 + 0 ≤ _)⟩)
      dsimp only [Pt.U, Pt.locs, Pt.cells, Pt.slots] at X12 l12 y12 z12 st12 hQ12
      subst l12 y12 z12
      obtain ⟨rfl, N12q, hq12⟩ := hQ12
      have N12 := Fr.app N5 N12q
      have pre13 : Go p e below T12 (mkF m 28 #[.val (.int p1), .val (.int p2), .val (.int p3), .val (.int p4), .val (.int p5), .val (.int w1), .val (.int h1), .unset, .unset, .unset, .unset, .unset, .unset, .unset] [(.int (sideF p3))]) s₁ (entryFrame m #[(.int p1), (.int p2), (.int p3), (.int p4), (.int p5)] maxLocals) := fun t k => pre11 t (st12 t k)
      have e12 : T12.heap = h0 := hq12
      have pre14 : Go p e below T12 (mkF m 34 #[.val (.int p1), .val (.int p2), .val (.int p3), .val (.int p4), .val (.int p5), .val (.int w1), .val (.int h1), .val (.int (sideF p3)), .unset, .unset, .unset, .unset, .unset, .unset] [(.int (p5 &&& (2 : Int32)))]) s₁ (entryFrame m #[(.int p1), (.int p2), (.int p3), (.int p4), (.int p5)] maxLocals) := fun t k => pre13 t (by
          show Steps p.tables e below (T12.setTop (mkF m 28 #[.val (.int p1), .val (.int p2), .val (.int p3), .val (.int p4), .val (.int p5), .val (.int w1), .val (.int h1), .unset, .unset, .unset, .unset, .unset, .unset, .unset] [(.int (sideF p3))])) t
          refine XS.istore X12.here hx rfl (hb hby at_28) rfl (l' := #[.val (.int p1), .val (.int p2), .val (.int p3), .val (.int p4), .val (.int p5), .val (.int w1), .val (.int h1), .val (.int (sideF p3)), .unset, .unset, .unset, .unset, .unset, .unset]) rfl ?_
          show Steps p.tables e below (T12.setTop (mkF m 30 #[.val (.int p1), .val (.int p2), .val (.int p3), .val (.int p4), .val (.int p5), .val (.int w1), .val (.int h1), .val (.int (sideF p3)), .unset, .unset, .unset, .unset, .unset, .unset] [])) t
          refine XS.iload X12.here hx rfl (hb hby at_30) rfl ?_
          show Steps p.tables e below (T12.setTop (mkF m 32 #[.val (.int p1), .val (.int p2), .val (.int p3), .val (.int p4), .val (.int p5), .val (.int w1), .val (.int h1), .val (.int (sideF p3)), .unset, .unset, .unset, .unset, .unset, .unset] [(.int p5)])) t
          refine XS.iconst X12.here hx rfl (hb hby at_32) ?_
          show Steps p.tables e below (T12.setTop (mkF m 33 #[.val (.int p1), .val (.int p2), .val (.int p3), .val (.int p4), .val (.int p5), .val (.int w1), .val (.int h1), .val (.int (sideF p3)), .unset, .unset, .unset, .unset, .unset, .unset] [(.int (2 : Int32)), (.int p5)])) t
          refine XS.iand X12.here hx rfl (hb hby at_33) rfl ?_
          exact k)
      by_cases hc34 : (p5 &&& (2 : Int32)) = (0 : Int32)
      · have pre15 : Go p e below T12 (mkF m 42 #[.val (.int p1), .val (.int p2), .val (.int p3), .val (.int p4), .val (.int p5), .val (.int w1), .val (.int h1), .val (.int (sideF p3)), .unset, .unset, .unset, .unset, .unset, .unset] []) s₁ (entryFrame m #[(.int p1), (.int p2), (.int p3), (.int p4), (.int p5)] maxLocals) := fun t k => pre14 t (XS.ifYes X12.here hx rfl (pc0 := 34) (pc' := 42) rfl (hb hby at_34) rfl ((if0 _ _).trans (teq hc34).1) (by decide) (by decide) k)
        have pre16 : Go p e below T12 (mkF m 43 #[.val (.int p1), .val (.int p2), .val (.int p3), .val (.int p4), .val (.int p5), .val (.int w1), .val (.int h1), .val (.int (sideF p3)), .unset, .unset, .unset, .unset, .unset, .unset] [(.int p4)]) s₁ (entryFrame m #[(.int p1), (.int p2), (.int p3), (.int p4), (.int p5)] maxLocals) := fun t k => pre15 t (by
            show Steps p.tables e below (T12.setTop (mkF m 42 #[.val (.int p1), .val (.int p2), .val (.int p3), .val (.int p4), .val (.int p5), .val (.int w1), .val (.int h1), .val (.int (sideF p3)), .unset, .unset, .unset, .unset, .unset, .unset] [])) t
            refine XS.iloadN X12.here hx rfl (hb hby at_42) rfl ?_
            exact k)
        obtain ⟨_, _, ⟨T17, L17, k17, n17⟩, -, X17, ⟨Lc17, hQ17, l17, y17, z17⟩, st17⟩ := Jvm.LawKit.callS X12 hx (y := (⟨"com/example/vetter/vetter/profile/ResolutionEqualsPinLaw", "side", "(I)I"⟩ : MethodName)) hown (mvT hZ (hw _ (List.mem_of_getElem? (i := 0) rfl))) (mvT hZ (hw _ (List.mem_of_getElem? (i := 1) rfl))) (mvT hZ (hw _ (List.mem_of_getElem? (i := 2) rfl))) (mvT hZ (hw _ (List.mem_of_getElem? (i := 3) rfl))) (by decide) (backOf (W := 0) (rmS l Z a0 hw [] p4 (sideF p4) h0 n0 Z0 rfl) hZ (hw _ (List.mem_of_getElem? (i := 3) rfl)) (hw _ (List.mem_of_getElem? (i := 2) rfl)) (by decide) (by decide)) (g := (mkF m 43 #[.val (.int p1), .val (.int p2), .val (.int p3), .val (.int p4), .val (.int p5), .val (.int w1), .val (.int h1), .val (.int (sideF p3)), .unset, .unset, .unset, .unset, .unset, .unset] [(.int p4)])) rfl (by rw [hml]; rfl) (argsL := [(.int p4)]) (rest := []) (lenOf pdL_0 rfl) rfl (by show 2 * 0 + _ ≤ _; exact Nat.le_of_eq rfl) (hb hby at_43) (fun _ _ => ⟨rfl, e12, (by decide : 0 + 0 ≤ _), (by decide : 0 + 0 ≤ _)⟩)
        dsimp only [Pt.U, Pt.locs, Pt.cells, Pt.slots] at X17 l17 y17 z17 st17 hQ17
        subst l17 y17 z17
        obtain ⟨rfl, N17q, hq17⟩ := hQ17
        have N17 := Fr.app N12 N17q
        have pre18 : Go p e below T17 (mkF m 46 #[.val (.int p1), .val (.int p2), .val (.int p3), .val (.int p4), .val (.int p5), .val (.int w1), .val (.int h1), .val (.int (sideF p3)), .unset, .unset, .unset, .unset, .unset, .unset] [(.int (sideF p4))]) s₁ (entryFrame m #[(.int p1), (.int p2), (.int p3), (.int p4), (.int p5)] maxLocals) := fun t k => pre16 t (st17 t k)
        have e17 : T17.heap = h0 := hq17
        have pre19 : Go p e below T17 (mkF m 52 #[.val (.int p1), .val (.int p2), .val (.int p3), .val (.int p4), .val (.int p5), .val (.int w1), .val (.int h1), .val (.int (sideF p3)), .val (.int (sideF p4)), .unset, .unset, .unset, .unset, .unset] [(.int (p5 &&& (4 : Int32)))]) s₁ (entryFrame m #[(.int p1), (.int p2), (.int p3), (.int p4), (.int p5)] maxLocals) := fun t k => pre18 t (by
            show Steps p.tables e below (T17.setTop (mkF m 46 #[.val (.int p1), .val (.int p2), .val (.int p3), .val (.int p4), .val (.int p5), .val (.int w1), .val (.int h1), .val (.int (sideF p3)), .unset, .unset, .unset, .unset, .unset, .unset] [(.int (sideF p4))])) t
            refine XS.istore X17.here hx rfl (hb hby at_46) rfl (l' := #[.val (.int p1), .val (.int p2), .val (.int p3), .val (.int p4), .val (.int p5), .val (.int w1), .val (.int h1), .val (.int (sideF p3)), .val (.int (sideF p4)), .unset, .unset, .unset, .unset, .unset]) rfl ?_
            show Steps p.tables e below (T17.setTop (mkF m 48 #[.val (.int p1), .val (.int p2), .val (.int p3), .val (.int p4), .val (.int p5), .val (.int w1), .val (.int h1), .val (.int (sideF p3)), .val (.int (sideF p4)), .unset, .unset, .unset, .unset, .unset] [])) t
            refine XS.iload X17.here hx rfl (hb hby at_48) rfl ?_
            show Steps p.tables e below (T17.setTop (mkF m 50 #[.val (.int p1), .val (.int p2), .val (.int p3), .val (.int p4), .val (.int p5), .val (.int w1), .val (.int h1), .val (.int (sideF p3)), .val (.int (sideF p4)), .unset, .unset, .unset, .unset, .unset] [(.int p5)])) t
            refine XS.iconst X17.here hx rfl (hb hby at_50) ?_
            show Steps p.tables e below (T17.setTop (mkF m 51 #[.val (.int p1), .val (.int p2), .val (.int p3), .val (.int p4), .val (.int p5), .val (.int w1), .val (.int h1), .val (.int (sideF p3)), .val (.int (sideF p4)), .unset, .unset, .unset, .unset, .unset] [(.int (4 : Int32)), (.int p5)])) t
            refine XS.iand X17.here hx rfl (hb hby at_51) rfl ?_
            exact k)
        by_cases hc52 : (p5 &&& (4 : Int32)) = (0 : Int32)
        · have pre20 : Go p e below T17 (mkF m 63 #[.val (.int p1), .val (.int p2), .val (.int p3), .val (.int p4), .val (.int p5), .val (.int w1), .val (.int h1), .val (.int (sideF p3)), .val (.int (sideF p4)), .unset, .unset, .unset, .unset, .unset] []) s₁ (entryFrame m #[(.int p1), (.int p2), (.int p3), (.int p4), (.int p5)] maxLocals) := fun t k => pre19 t (XS.ifYes X17.here hx rfl (pc0 := 52) (pc' := 63) rfl (hb hby at_52) rfl ((if0 _ _).trans (teq hc52).1) (by decide) (by decide) k)
          exact ⟨_, _, (sideF p3), (sideF p4), X17, N17, e17, (own_side _), (own_side _), pre20⟩
        · have pre21 : Go p e below T17 (mkF m 55 #[.val (.int p1), .val (.int p2), .val (.int p3), .val (.int p4), .val (.int p5), .val (.int w1), .val (.int h1), .val (.int (sideF p3)), .val (.int (sideF p4)), .unset, .unset, .unset, .unset, .unset] []) s₁ (entryFrame m #[(.int p1), (.int p2), (.int p3), (.int p4), (.int p5)] maxLocals) := fun t k => pre19 t (XS.ifNo X17.here hx rfl (hb hby at_52) rfl ((if0 _ _).trans (feq hc52).1) k)
          have pre22 : Go p e below T17 (mkF m 63 #[.val (.int p1), .val (.int p2), .val (.int p3), .val (.int p4), .val (.int p5), .val (.int w1), .val (.int h1), .val (.int h1), .val (.int w1), .unset, .unset, .unset, .unset, .unset] []) s₁ (entryFrame m #[(.int p1), (.int p2), (.int p3), (.int p4), (.int p5)] maxLocals) := fun t k => pre21 t (by
              show Steps p.tables e below (T17.setTop (mkF m 55 #[.val (.int p1), .val (.int p2), .val (.int p3), .val (.int p4), .val (.int p5), .val (.int w1), .val (.int h1), .val (.int (sideF p3)), .val (.int (sideF p4)), .unset, .unset, .unset, .unset, .unset] [])) t
              refine XS.iload X17.here hx rfl (hb hby at_55) rfl ?_
              show Steps p.tables e below (T17.setTop (mkF m 57 #[.val (.int p1), .val (.int p2), .val (.int p3), .val (.int p4), .val (.int p5), .val (.int w1), .val (.int h1), .val (.int (sideF p3)), .val (.int (sideF p4)), .unset, .unset, .unset, .unset, .unset] [(.int h1)])) t
              refine XS.istore X17.here hx rfl (hb hby at_57) rfl (l' := #[.val (.int p1), .val (.int p2), .val (.int p3), .val (.int p4), .val (.int p5), .val (.int w1), .val (.int h1), .val (.int h1), .val (.int (sideF p4)), .unset, .unset, .unset, .unset, .unset]) rfl ?_
              show Steps p.tables e below (T17.setTop (mkF m 59 #[.val (.int p1), .val (.int p2), .val (.int p3), .val (.int p4), .val (.int p5), .val (.int w1), .val (.int h1), .val (.int h1), .val (.int (sideF p4)), .unset, .unset, .unset, .unset, .unset] [])) t
              refine XS.iload X17.here hx rfl (hb hby at_59) rfl ?_
              show Steps p.tables e below (T17.setTop (mkF m 61 #[.val (.int p1), .val (.int p2), .val (.int p3), .val (.int p4), .val (.int p5), .val (.int w1), .val (.int h1), .val (.int h1), .val (.int (sideF p4)), .unset, .unset, .unset, .unset, .unset] [(.int w1)])) t
              refine XS.istore X17.here hx rfl (hb hby at_61) rfl (l' := #[.val (.int p1), .val (.int p2), .val (.int p3), .val (.int p4), .val (.int p5), .val (.int w1), .val (.int h1), .val (.int h1), .val (.int w1), .unset, .unset, .unset, .unset, .unset]) rfl ?_
              exact k)
          exact ⟨_, _, h1, w1, X17, N17, e17, ph1, pw1, pre22⟩
      · have pre23 : Go p e below T12 (mkF m 37 #[.val (.int p1), .val (.int p2), .val (.int p3), .val (.int p4), .val (.int p5), .val (.int w1), .val (.int h1), .val (.int (sideF p3)), .unset, .unset, .unset, .unset, .unset, .unset] []) s₁ (entryFrame m #[(.int p1), (.int p2), (.int p3), (.int p4), (.int p5)] maxLocals) := fun t k => pre14 t (XS.ifNo X12.here hx rfl (hb hby at_34) rfl ((if0 _ _).trans (feq hc34).1) k)
        have pre24 : Go p e below T12 (mkF m 52 #[.val (.int p1), .val (.int p2), .val (.int p3), .val (.int p4), .val (.int p5), .val (.int w1), .val (.int h1), .val (.int (sideF p3)), .val (.int h1), .unset, .unset, .unset, .unset, .unset] [(.int (p5 &&& (4 : Int32)))]) s₁ (entryFrame m #[(.int p1), (.int p2), (.int p3), (.int p4), (.int p5)] maxLocals) := fun t k => pre23 t (by
            show Steps p.tables e below (T12.setTop (mkF m 37 #[.val (.int p1), .val (.int p2), .val (.int p3), .val (.int p4), .val (.int p5), .val (.int w1), .val (.int h1), .val (.int (sideF p3)), .unset, .unset, .unset, .unset, .unset, .unset] [])) t
            refine XS.iload X12.here hx rfl (hb hby at_37) rfl ?_
            show Steps p.tables e below (T12.setTop (mkF m 39 #[.val (.int p1), .val (.int p2), .val (.int p3), .val (.int p4), .val (.int p5), .val (.int w1), .val (.int h1), .val (.int (sideF p3)), .unset, .unset, .unset, .unset, .unset, .unset] [(.int h1)])) t
            refine XS.goto X12.here hx rfl (pc0 := 39) (pc' := 46) rfl (hb hby at_39) (by decide) (by decide) ?_
            show Steps p.tables e below (T12.setTop (mkF m 46 #[.val (.int p1), .val (.int p2), .val (.int p3), .val (.int p4), .val (.int p5), .val (.int w1), .val (.int h1), .val (.int (sideF p3)), .unset, .unset, .unset, .unset, .unset, .unset] [(.int h1)])) t
            refine XS.istore X12.here hx rfl (hb hby at_46) rfl (l' := #[.val (.int p1), .val (.int p2), .val (.int p3), .val (.int p4), .val (.int p5), .val (.int w1), .val (.int h1), .val (.int (sideF p3)), .val (.int h1), .unset, .unset, .unset, .unset, .unset]) rfl ?_
            show Steps p.tables e below (T12.setTop (mkF m 48 #[.val (.int p1), .val (.int p2), .val (.int p3), .val (.int p4), .val (.int p5), .val (.int w1), .val (.int h1), .val (.int (sideF p3)), .val (.int h1), .unset, .unset, .unset, .unset, .unset] [])) t
            refine XS.iload X12.here hx rfl (hb hby at_48) rfl ?_
            show Steps p.tables e below (T12.setTop (mkF m 50 #[.val (.int p1), .val (.int p2), .val (.int p3), .val (.int p4), .val (.int p5), .val (.int w1), .val (.int h1), .val (.int (sideF p3)), .val (.int h1), .unset, .unset, .unset, .unset, .unset] [(.int p5)])) t
            refine XS.iconst X12.here hx rfl (hb hby at_50) ?_
            show Steps p.tables e below (T12.setTop (mkF m 51 #[.val (.int p1), .val (.int p2), .val (.int p3), .val (.int p4), .val (.int p5), .val (.int w1), .val (.int h1), .val (.int (sideF p3)), .val (.int h1), .unset, .unset, .unset, .unset, .unset] [(.int (4 : Int32)), (.int p5)])) t
            refine XS.iand X12.here hx rfl (hb hby at_51) rfl ?_
            exact k)
        by_cases hc52 : (p5 &&& (4 : Int32)) = (0 : Int32)
        · have pre25 : Go p e below T12 (mkF m 63 #[.val (.int p1), .val (.int p2), .val (.int p3), .val (.int p4), .val (.int p5), .val (.int w1), .val (.int h1), .val (.int (sideF p3)), .val (.int h1), .unset, .unset, .unset, .unset, .unset] []) s₁ (entryFrame m #[(.int p1), (.int p2), (.int p3), (.int p4), (.int p5)] maxLocals) := fun t k => pre24 t (XS.ifYes X12.here hx rfl (pc0 := 52) (pc' := 63) rfl (hb hby at_52) rfl ((if0 _ _).trans (teq hc52).1) (by decide) (by decide) k)
          exact ⟨_, _, (sideF p3), h1, X12, N12, e12, (own_side _), ph1, pre25⟩
        · have pre26 : Go p e below T12 (mkF m 55 #[.val (.int p1), .val (.int p2), .val (.int p3), .val (.int p4), .val (.int p5), .val (.int w1), .val (.int h1), .val (.int (sideF p3)), .val (.int h1), .unset, .unset, .unset, .unset, .unset] []) s₁ (entryFrame m #[(.int p1), (.int p2), (.int p3), (.int p4), (.int p5)] maxLocals) := fun t k => pre24 t (XS.ifNo X12.here hx rfl (hb hby at_52) rfl ((if0 _ _).trans (feq hc52).1) k)
          have pre27 : Go p e below T12 (mkF m 63 #[.val (.int p1), .val (.int p2), .val (.int p3), .val (.int p4), .val (.int p5), .val (.int w1), .val (.int h1), .val (.int h1), .val (.int w1), .unset, .unset, .unset, .unset, .unset] []) s₁ (entryFrame m #[(.int p1), (.int p2), (.int p3), (.int p4), (.int p5)] maxLocals) := fun t k => pre26 t (by
              show Steps p.tables e below (T12.setTop (mkF m 55 #[.val (.int p1), .val (.int p2), .val (.int p3), .val (.int p4), .val (.int p5), .val (.int w1), .val (.int h1), .val (.int (sideF p3)), .val (.int h1), .unset, .unset, .unset, .unset, .unset] [])) t
              refine XS.iload X12.here hx rfl (hb hby at_55) rfl ?_
              show Steps p.tables e below (T12.setTop (mkF m 57 #[.val (.int p1), .val (.int p2), .val (.int p3), .val (.int p4), .val (.int p5), .val (.int w1), .val (.int h1), .val (.int (sideF p3)), .val (.int h1), .unset, .unset, .unset, .unset, .unset] [(.int h1)])) t
              refine XS.istore X12.here hx rfl (hb hby at_57) rfl (l' := #[.val (.int p1), .val (.int p2), .val (.int p3), .val (.int p4), .val (.int p5), .val (.int w1), .val (.int h1), .val (.int h1), .val (.int h1), .unset, .unset, .unset, .unset, .unset]) rfl ?_
              show Steps p.tables e below (T12.setTop (mkF m 59 #[.val (.int p1), .val (.int p2), .val (.int p3), .val (.int p4), .val (.int p5), .val (.int w1), .val (.int h1), .val (.int h1), .val (.int h1), .unset, .unset, .unset, .unset, .unset] [])) t
              refine XS.iload X12.here hx rfl (hb hby at_59) rfl ?_
              show Steps p.tables e below (T12.setTop (mkF m 61 #[.val (.int p1), .val (.int p2), .val (.int p3), .val (.int p4), .val (.int p5), .val (.int w1), .val (.int h1), .val (.int h1), .val (.int h1), .unset, .unset, .unset, .unset, .unset] [(.int w1)])) t
              refine XS.istore X12.here hx rfl (hb hby at_61) rfl (l' := #[.val (.int p1), .val (.int p2), .val (.int p3), .val (.int p4), .val (.int p5), .val (.int w1), .val (.int h1), .val (.int h1), .val (.int w1), .unset, .unset, .unset, .unset, .unset]) rfl ?_
              exact k)
          exact ⟨_, _, h1, w1, X12, N12, e12, ph1, pw1, pre27⟩
    · have pre28 : Go p e below T5 (mkF m 19 #[.val (.int p1), .val (.int p2), .val (.int p3), .val (.int p4), .val (.int p5), .val (.int w1), .val (.int h1), .unset, .unset, .unset, .unset, .unset, .unset, .unset] []) s₁ (entryFrame m #[(.int p1), (.int p2), (.int p3), (.int p4), (.int p5)] maxLocals) := fun t k => pre9 t (XS.ifNo X5.here hx rfl (hb hby at_16) rfl ((if0 _ _).trans (feq hc16).1) k)
      have pre29 : Go p e below T5 (mkF m 34 #[.val (.int p1), .val (.int p2), .val (.int p3), .val (.int p4), .val (.int p5), .val (.int w1), .val (.int h1), .val (.int w1), .unset, .unset, .unset, .unset, .unset, .unset] [(.int (p5 &&& (2 : Int32)))]) s₁ (entryFrame m #[(.int p1), (.int p2), (.int p3), (.int p4), (.int p5)] maxLocals) := fun t k => pre28 t (by
          show Steps p.tables e below (T5.setTop (mkF m 19 #[.val (.int p1), .val (.int p2), .val (.int p3), .val (.int p4), .val (.int p5), .val (.int w1), .val (.int h1), .unset, .unset, .unset, .unset, .unset, .unset, .unset] [])) t
          refine XS.iload X5.here hx rfl (hb hby at_19) rfl ?_
          show Steps p.tables e below (T5.setTop (mkF m 21 #[.val (.int p1), .val (.int p2), .val (.int p3), .val (.int p4), .val (.int p5), .val (.int w1), .val (.int h1), .unset, .unset, .unset, .unset, .unset, .unset, .unset] [(.int w1)])) t
          refine XS.goto X5.here hx rfl (pc0 := 21) (pc' := 28) rfl (hb hby at_21) (by decide) (by decide) ?_
          show Steps p.tables e below (T5.setTop (mkF m 28 #[.val (.int p1), .val (.int p2), .val (.int p3), .val (.int p4), .val (.int p5), .val (.int w1), .val (.int h1), .unset, .unset, .unset, .unset, .unset, .unset, .unset] [(.int w1)])) t
          refine XS.istore X5.here hx rfl (hb hby at_28) rfl (l' := #[.val (.int p1), .val (.int p2), .val (.int p3), .val (.int p4), .val (.int p5), .val (.int w1), .val (.int h1), .val (.int w1), .unset, .unset, .unset, .unset, .unset, .unset]) rfl ?_
          show Steps p.tables e below (T5.setTop (mkF m 30 #[.val (.int p1), .val (.int p2), .val (.int p3), .val (.int p4), .val (.int p5), .val (.int w1), .val (.int h1), .val (.int w1), .unset, .unset, .unset, .unset, .unset, .unset] [])) t
          refine XS.iload X5.here hx rfl (hb hby at_30) rfl ?_
          show Steps p.tables e below (T5.setTop (mkF m 32 #[.val (.int p1), .val (.int p2), .val (.int p3), .val (.int p4), .val (.int p5), .val (.int w1), .val (.int h1), .val (.int w1), .unset, .unset, .unset, .unset, .unset, .unset] [(.int p5)])) t
          refine XS.iconst X5.here hx rfl (hb hby at_32) ?_
          show Steps p.tables e below (T5.setTop (mkF m 33 #[.val (.int p1), .val (.int p2), .val (.int p3), .val (.int p4), .val (.int p5), .val (.int w1), .val (.int h1), .val (.int w1), .unset, .unset, .unset, .unset, .unset, .unset] [(.int (2 : Int32)), (.int p5)])) t
          refine XS.iand X5.here hx rfl (hb hby at_33) rfl ?_
          exact k)
      by_cases hc34 : (p5 &&& (2 : Int32)) = (0 : Int32)
      · have pre30 : Go p e below T5 (mkF m 42 #[.val (.int p1), .val (.int p2), .val (.int p3), .val (.int p4), .val (.int p5), .val (.int w1), .val (.int h1), .val (.int w1), .unset, .unset, .unset, .unset, .unset, .unset] []) s₁ (entryFrame m #[(.int p1), (.int p2), (.int p3), (.int p4), (.int p5)] maxLocals) := fun t k => pre29 t (XS.ifYes X5.here hx rfl (pc0 := 34) (pc' := 42) rfl (hb hby at_34) rfl ((if0 _ _).trans (teq hc34).1) (by decide) (by decide) k)
        have pre31 : Go p e below T5 (mkF m 43 #[.val (.int p1), .val (.int p2), .val (.int p3), .val (.int p4), .val (.int p5), .val (.int w1), .val (.int h1), .val (.int w1), .unset, .unset, .unset, .unset, .unset, .unset] [(.int p4)]) s₁ (entryFrame m #[(.int p1), (.int p2), (.int p3), (.int p4), (.int p5)] maxLocals) := fun t k => pre30 t (by
            show Steps p.tables e below (T5.setTop (mkF m 42 #[.val (.int p1), .val (.int p2), .val (.int p3), .val (.int p4), .val (.int p5), .val (.int w1), .val (.int h1), .val (.int w1), .unset, .unset, .unset, .unset, .unset, .unset] [])) t
            refine XS.iloadN X5.here hx rfl (hb hby at_42) rfl ?_
            exact k)
        obtain ⟨_, _, ⟨T32, L32, k32, n32⟩, -, X32, ⟨Lc32, hQ32, l32, y32, z32⟩, st32⟩ := Jvm.LawKit.callS X5 hx (y := (⟨"com/example/vetter/vetter/profile/ResolutionEqualsPinLaw", "side", "(I)I"⟩ : MethodName)) hown (mvT hZ (hw _ (List.mem_of_getElem? (i := 0) rfl))) (mvT hZ (hw _ (List.mem_of_getElem? (i := 1) rfl))) (mvT hZ (hw _ (List.mem_of_getElem? (i := 2) rfl))) (mvT hZ (hw _ (List.mem_of_getElem? (i := 3) rfl))) (by decide) (backOf (W := 0) (rmS l Z a0 hw [] p4 (sideF p4) h0 n0 Z0 rfl) hZ (hw _ (List.mem_of_getElem? (i := 3) rfl)) (hw _ (List.mem_of_getElem? (i := 2) rfl)) (by decide) (by decide)) (g := (mkF m 43 #[.val (.int p1), .val (.int p2), .val (.int p3), .val (.int p4), .val (.int p5), .val (.int w1), .val (.int h1), .val (.int w1), .unset, .unset, .unset, .unset, .unset, .unset] [(.int p4)])) rfl (by rw [hml]; rfl) (argsL := [(.int p4)]) (rest := []) (lenOf pdL_0 rfl) rfl (by show 2 * 0 + _ ≤ _; exact Nat.le_of_eq rfl) (hb hby at_43) (fun _ _ => ⟨rfl, e5, (by decide : 0 + 0 ≤ _), (by decide : 0 + 0 ≤ _)⟩)
        dsimp only [Pt.U, Pt.locs, Pt.cells, Pt.slots] at X32 l32 y32 z32 st32 hQ32
        subst l32 y32 z32
        obtain ⟨rfl, N32q, hq32⟩ := hQ32
        have N32 := Fr.app N5 N32q
        have pre33 : Go p e below T32 (mkF m 46 #[.val (.int p1), .val (.int p2), .val (.int p3), .val (.int p4), .val (.int p5), .val (.int w1), .val (.int h1), .val (.int w1), .unset, .unset, .unset, .unset, .unset, .unset] [(.int (sideF p4))]) s₁ (entryFrame m #[(.int p1), (.int p2), (.int p3), (.int p4), (.int p5)] maxLocals) := fun t k => pre31 t (st32 t k)
        have e32 : T32.heap = h0 := hq32
        have pre34 : Go p e below T32 (mkF m 52 #[.val (.int p1), .val (.int p2), .val (.int p3), .val (.int p4), .val (.int p5), .val (.int w1), .val (.int h1), .val (.int w1), .val (.int (sideF p4)), .unset, .unset, .unset, .unset, .unset] [(.int (p5 &&& (4 : Int32)))]) s₁ (entryFrame m #[(.int p1), (.int p2), (.int p3), (.int p4), (.int p5)] maxLocals) := fun t k => pre33 t (by
            show Steps p.tables e below (T32.setTop (mkF m 46 #[.val (.int p1), .val (.int p2), .val (.int p3), .val (.int p4), .val (.int p5), .val (.int w1), .val (.int h1), .val (.int w1), .unset, .unset, .unset, .unset, .unset, .unset] [(.int (sideF p4))])) t
            refine XS.istore X32.here hx rfl (hb hby at_46) rfl (l' := #[.val (.int p1), .val (.int p2), .val (.int p3), .val (.int p4), .val (.int p5), .val (.int w1), .val (.int h1), .val (.int w1), .val (.int (sideF p4)), .unset, .unset, .unset, .unset, .unset]) rfl ?_
            show Steps p.tables e below (T32.setTop (mkF m 48 #[.val (.int p1), .val (.int p2), .val (.int p3), .val (.int p4), .val (.int p5), .val (.int w1), .val (.int h1), .val (.int w1), .val (.int (sideF p4)), .unset, .unset, .unset, .unset, .unset] [])) t
            refine XS.iload X32.here hx rfl (hb hby at_48) rfl ?_
            show Steps p.tables e below (T32.setTop (mkF m 50 #[.val (.int p1), .val (.int p2), .val (.int p3), .val (.int p4), .val (.int p5), .val (.int w1), .val (.int h1), .val (.int w1), .val (.int (sideF p4)), .unset, .unset, .unset, .unset, .unset] [(.int p5)])) t
            refine XS.iconst X32.here hx rfl (hb hby at_50) ?_
            show Steps p.tables e below (T32.setTop (mkF m 51 #[.val (.int p1), .val (.int p2), .val (.int p3), .val (.int p4), .val (.int p5), .val (.int w1), .val (.int h1), .val (.int w1), .val (.int (sideF p4)), .unset, .unset, .unset, .unset, .unset] [(.int (4 : Int32)), (.int p5)])) t
            refine XS.iand X32.here hx rfl (hb hby at_51) rfl ?_
            exact k)
        by_cases hc52 : (p5 &&& (4 : Int32)) = (0 : Int32)
        · have pre35 : Go p e below T32 (mkF m 63 #[.val (.int p1), .val (.int p2), .val (.int p3), .val (.int p4), .val (.int p5), .val (.int w1), .val (.int h1), .val (.int w1), .val (.int (sideF p4)), .unset, .unset, .unset, .unset, .unset] []) s₁ (entryFrame m #[(.int p1), (.int p2), (.int p3), (.int p4), (.int p5)] maxLocals) := fun t k => pre34 t (XS.ifYes X32.here hx rfl (pc0 := 52) (pc' := 63) rfl (hb hby at_52) rfl ((if0 _ _).trans (teq hc52).1) (by decide) (by decide) k)
          exact ⟨_, _, w1, (sideF p4), X32, N32, e32, pw1, (own_side _), pre35⟩
        · have pre36 : Go p e below T32 (mkF m 55 #[.val (.int p1), .val (.int p2), .val (.int p3), .val (.int p4), .val (.int p5), .val (.int w1), .val (.int h1), .val (.int w1), .val (.int (sideF p4)), .unset, .unset, .unset, .unset, .unset] []) s₁ (entryFrame m #[(.int p1), (.int p2), (.int p3), (.int p4), (.int p5)] maxLocals) := fun t k => pre34 t (XS.ifNo X32.here hx rfl (hb hby at_52) rfl ((if0 _ _).trans (feq hc52).1) k)
          have pre37 : Go p e below T32 (mkF m 63 #[.val (.int p1), .val (.int p2), .val (.int p3), .val (.int p4), .val (.int p5), .val (.int w1), .val (.int h1), .val (.int h1), .val (.int w1), .unset, .unset, .unset, .unset, .unset] []) s₁ (entryFrame m #[(.int p1), (.int p2), (.int p3), (.int p4), (.int p5)] maxLocals) := fun t k => pre36 t (by
              show Steps p.tables e below (T32.setTop (mkF m 55 #[.val (.int p1), .val (.int p2), .val (.int p3), .val (.int p4), .val (.int p5), .val (.int w1), .val (.int h1), .val (.int w1), .val (.int (sideF p4)), .unset, .unset, .unset, .unset, .unset] [])) t
              refine XS.iload X32.here hx rfl (hb hby at_55) rfl ?_
              show Steps p.tables e below (T32.setTop (mkF m 57 #[.val (.int p1), .val (.int p2), .val (.int p3), .val (.int p4), .val (.int p5), .val (.int w1), .val (.int h1), .val (.int w1), .val (.int (sideF p4)), .unset, .unset, .unset, .unset, .unset] [(.int h1)])) t
              refine XS.istore X32.here hx rfl (hb hby at_57) rfl (l' := #[.val (.int p1), .val (.int p2), .val (.int p3), .val (.int p4), .val (.int p5), .val (.int w1), .val (.int h1), .val (.int h1), .val (.int (sideF p4)), .unset, .unset, .unset, .unset, .unset]) rfl ?_
              show Steps p.tables e below (T32.setTop (mkF m 59 #[.val (.int p1), .val (.int p2), .val (.int p3), .val (.int p4), .val (.int p5), .val (.int w1), .val (.int h1), .val (.int h1), .val (.int (sideF p4)), .unset, .unset, .unset, .unset, .unset] [])) t
              refine XS.iload X32.here hx rfl (hb hby at_59) rfl ?_
              show Steps p.tables e below (T32.setTop (mkF m 61 #[.val (.int p1), .val (.int p2), .val (.int p3), .val (.int p4), .val (.int p5), .val (.int w1), .val (.int h1), .val (.int h1), .val (.int (sideF p4)), .unset, .unset, .unset, .unset, .unset] [(.int w1)])) t
              refine XS.istore X32.here hx rfl (hb hby at_61) rfl (l' := #[.val (.int p1), .val (.int p2), .val (.int p3), .val (.int p4), .val (.int p5), .val (.int w1), .val (.int h1), .val (.int h1), .val (.int w1), .unset, .unset, .unset, .unset, .unset]) rfl ?_
              exact k)
          exact ⟨_, _, h1, w1, X32, N32, e32, ph1, pw1, pre37⟩
      · have pre38 : Go p e below T5 (mkF m 37 #[.val (.int p1), .val (.int p2), .val (.int p3), .val (.int p4), .val (.int p5), .val (.int w1), .val (.int h1), .val (.int w1), .unset, .unset, .unset, .unset, .unset, .unset] []) s₁ (entryFrame m #[(.int p1), (.int p2), (.int p3), (.int p4), (.int p5)] maxLocals) := fun t k => pre29 t (XS.ifNo X5.here hx rfl (hb hby at_34) rfl ((if0 _ _).trans (feq hc34).1) k)
        have pre39 : Go p e below T5 (mkF m 52 #[.val (.int p1), .val (.int p2), .val (.int p3), .val (.int p4), .val (.int p5), .val (.int w1), .val (.int h1), .val (.int w1), .val (.int h1), .unset, .unset, .unset, .unset, .unset] [(.int (p5 &&& (4 : Int32)))]) s₁ (entryFrame m #[(.int p1), (.int p2), (.int p3), (.int p4), (.int p5)] maxLocals) := fun t k => pre38 t (by
            show Steps p.tables e below (T5.setTop (mkF m 37 #[.val (.int p1), .val (.int p2), .val (.int p3), .val (.int p4), .val (.int p5), .val (.int w1), .val (.int h1), .val (.int w1), .unset, .unset, .unset, .unset, .unset, .unset] [])) t
            refine XS.iload X5.here hx rfl (hb hby at_37) rfl ?_
            show Steps p.tables e below (T5.setTop (mkF m 39 #[.val (.int p1), .val (.int p2), .val (.int p3), .val (.int p4), .val (.int p5), .val (.int w1), .val (.int h1), .val (.int w1), .unset, .unset, .unset, .unset, .unset, .unset] [(.int h1)])) t
            refine XS.goto X5.here hx rfl (pc0 := 39) (pc' := 46) rfl (hb hby at_39) (by decide) (by decide) ?_
            show Steps p.tables e below (T5.setTop (mkF m 46 #[.val (.int p1), .val (.int p2), .val (.int p3), .val (.int p4), .val (.int p5), .val (.int w1), .val (.int h1), .val (.int w1), .unset, .unset, .unset, .unset, .unset, .unset] [(.int h1)])) t
            refine XS.istore X5.here hx rfl (hb hby at_46) rfl (l' := #[.val (.int p1), .val (.int p2), .val (.int p3), .val (.int p4), .val (.int p5), .val (.int w1), .val (.int h1), .val (.int w1), .val (.int h1), .unset, .unset, .unset, .unset, .unset]) rfl ?_
            show Steps p.tables e below (T5.setTop (mkF m 48 #[.val (.int p1), .val (.int p2), .val (.int p3), .val (.int p4), .val (.int p5), .val (.int w1), .val (.int h1), .val (.int w1), .val (.int h1), .unset, .unset, .unset, .unset, .unset] [])) t
            refine XS.iload X5.here hx rfl (hb hby at_48) rfl ?_
            show Steps p.tables e below (T5.setTop (mkF m 50 #[.val (.int p1), .val (.int p2), .val (.int p3), .val (.int p4), .val (.int p5), .val (.int w1), .val (.int h1), .val (.int w1), .val (.int h1), .unset, .unset, .unset, .unset, .unset] [(.int p5)])) t
            refine XS.iconst X5.here hx rfl (hb hby at_50) ?_
            show Steps p.tables e below (T5.setTop (mkF m 51 #[.val (.int p1), .val (.int p2), .val (.int p3), .val (.int p4), .val (.int p5), .val (.int w1), .val (.int h1), .val (.int w1), .val (.int h1), .unset, .unset, .unset, .unset, .unset] [(.int (4 : Int32)), (.int p5)])) t
            refine XS.iand X5.here hx rfl (hb hby at_51) rfl ?_
            exact k)
        by_cases hc52 : (p5 &&& (4 : Int32)) = (0 : Int32)
        · have pre40 : Go p e below T5 (mkF m 63 #[.val (.int p1), .val (.int p2), .val (.int p3), .val (.int p4), .val (.int p5), .val (.int w1), .val (.int h1), .val (.int w1), .val (.int h1), .unset, .unset, .unset, .unset, .unset] []) s₁ (entryFrame m #[(.int p1), (.int p2), (.int p3), (.int p4), (.int p5)] maxLocals) := fun t k => pre39 t (XS.ifYes X5.here hx rfl (pc0 := 52) (pc' := 63) rfl (hb hby at_52) rfl ((if0 _ _).trans (teq hc52).1) (by decide) (by decide) k)
          exact ⟨_, _, w1, h1, X5, N5, e5, pw1, ph1, pre40⟩
        · have pre41 : Go p e below T5 (mkF m 55 #[.val (.int p1), .val (.int p2), .val (.int p3), .val (.int p4), .val (.int p5), .val (.int w1), .val (.int h1), .val (.int w1), .val (.int h1), .unset, .unset, .unset, .unset, .unset] []) s₁ (entryFrame m #[(.int p1), (.int p2), (.int p3), (.int p4), (.int p5)] maxLocals) := fun t k => pre39 t (XS.ifNo X5.here hx rfl (hb hby at_52) rfl ((if0 _ _).trans (feq hc52).1) k)
          have pre42 : Go p e below T5 (mkF m 63 #[.val (.int p1), .val (.int p2), .val (.int p3), .val (.int p4), .val (.int p5), .val (.int w1), .val (.int h1), .val (.int h1), .val (.int w1), .unset, .unset, .unset, .unset, .unset] []) s₁ (entryFrame m #[(.int p1), (.int p2), (.int p3), (.int p4), (.int p5)] maxLocals) := fun t k => pre41 t (by
              show Steps p.tables e below (T5.setTop (mkF m 55 #[.val (.int p1), .val (.int p2), .val (.int p3), .val (.int p4), .val (.int p5), .val (.int w1), .val (.int h1), .val (.int w1), .val (.int h1), .unset, .unset, .unset, .unset, .unset] [])) t
              refine XS.iload X5.here hx rfl (hb hby at_55) rfl ?_
              show Steps p.tables e below (T5.setTop (mkF m 57 #[.val (.int p1), .val (.int p2), .val (.int p3), .val (.int p4), .val (.int p5), .val (.int w1), .val (.int h1), .val (.int w1), .val (.int h1), .unset, .unset, .unset, .unset, .unset] [(.int h1)])) t
              refine XS.istore X5.here hx rfl (hb hby at_57) rfl (l' := #[.val (.int p1), .val (.int p2), .val (.int p3), .val (.int p4), .val (.int p5), .val (.int w1), .val (.int h1), .val (.int h1), .val (.int h1), .unset, .unset, .unset, .unset, .unset]) rfl ?_
              show Steps p.tables e below (T5.setTop (mkF m 59 #[.val (.int p1), .val (.int p2), .val (.int p3), .val (.int p4), .val (.int p5), .val (.int w1), .val (.int h1), .val (.int h1), .val (.int h1), .unset, .unset, .unset, .unset, .unset] [])) t
              refine XS.iload X5.here hx rfl (hb hby at_59) rfl ?_
              show Steps p.tables e below (T5.setTop (mkF m 61 #[.val (.int p1), .val (.int p2), .val (.int p3), .val (.int p4), .val (.int p5), .val (.int w1), .val (.int h1), .val (.int h1), .val (.int h1), .unset, .unset, .unset, .unset, .unset] [(.int w1)])) t
              refine XS.istore X5.here hx rfl (hb hby at_61) rfl (l' := #[.val (.int p1), .val (.int p2), .val (.int p3), .val (.int p4), .val (.int p5), .val (.int w1), .val (.int h1), .val (.int h1), .val (.int w1), .unset, .unset, .unset, .unset, .unset]) rfl ?_
              exact k)
          exact ⟨_, _, h1, w1, X5, N5, e5, ph1, pw1, pre42⟩
  have pw2 := hj8_0
  have ph2 := hj8_1
  obtain ⟨T43, h43, X43, e43, Et43, A43, D43, U43, st43⟩ := newO X8 hx hZ hown (hw _ (List.mem_of_getElem? (i := 9) rfl)) (hw _ (List.mem_of_getElem? (i := 10) rfl)) (hw _ (List.mem_of_getElem? (i := 11) rfl)) e8 (g := (mkF m 63 #[.val (.int p1), .val (.int p2), .val (.int p3), .val (.int p4), .val (.int p5), .val (.int w1), .val (.int h1), .val (.int w2), .val (.int h2), .unset, .unset, .unset, .unset, .unset] [])) rfl (hb hby at_63) (by decide) (by decide)
  obtain ⟨b43, g43⟩ : ∃ z, z = h0.size := ⟨_, rfl⟩
  rw [← g43] at A43 st43 D43
  have g_b43 : n0 ≤ b43 := Nat.le_trans Z0 (Nat.le_of_eq g43.symm)
  have pre44 : Go p e below T43 (mkF m 66 #[.val (.int p1), .val (.int p2), .val (.int p3), .val (.int p4), .val (.int p5), .val (.int w1), .val (.int h1), .val (.int w2), .val (.int h2), .unset, .unset, .unset, .unset, .unset] [(.ref b43)]) s₁ (entryFrame m #[(.int p1), (.int p2), (.int p3), (.int p4), (.int p5)] maxLocals) := fun t k => pre8 t (st43 t k)
  have O45 : Old Z n0 h43 := O0.ext Et43
  have Z45 : n0 ≤ h43.size := Nat.le_trans Z0 Et43.1
  have F_width_b43 : Fld Z h43 b43 "com/example/vetter/vetter/profile/Resolution" "width" "I" (.int (0 : Int32)) := D43 (Or.inr (hw _ (List.mem_of_getElem? (i := 19) rfl))) (ty := .int) (by decide)
  have F_height_b43 : Fld Z h43 b43 "com/example/vetter/vetter/profile/Resolution" "height" "I" (.int (0 : Int32)) := D43 (Or.inr (hw _ (List.mem_of_getElem? (i := 21) rfl))) (ty := .int) (by decide)
  have pre46 : Go p e below T43 (mkF m 71 #[.val (.int p1), .val (.int p2), .val (.int p3), .val (.int p4), .val (.int p5), .val (.int w1), .val (.int h1), .val (.int w2), .val (.int h2), .unset, .unset, .unset, .unset, .unset] [(.int h1), (.int w1), (.ref b43), (.ref b43)]) s₁ (entryFrame m #[(.int p1), (.int p2), (.int p3), (.int p4), (.int p5)] maxLocals) := fun t k => pre44 t (by
      show Steps p.tables e below (T43.setTop (mkF m 66 #[.val (.int p1), .val (.int p2), .val (.int p3), .val (.int p4), .val (.int p5), .val (.int w1), .val (.int h1), .val (.int w2), .val (.int h2), .unset, .unset, .unset, .unset, .unset] [(.ref b43)])) t
      refine XS.dup X43.here hx rfl (hb hby at_66) rfl rfl ?_
      show Steps p.tables e below (T43.setTop (mkF m 67 #[.val (.int p1), .val (.int p2), .val (.int p3), .val (.int p4), .val (.int p5), .val (.int w1), .val (.int h1), .val (.int w2), .val (.int h2), .unset, .unset, .unset, .unset, .unset] [(.ref b43), (.ref b43)])) t
      refine XS.iload X43.here hx rfl (hb hby at_67) rfl ?_
      show Steps p.tables e below (T43.setTop (mkF m 69 #[.val (.int p1), .val (.int p2), .val (.int p3), .val (.int p4), .val (.int p5), .val (.int w1), .val (.int h1), .val (.int w2), .val (.int h2), .unset, .unset, .unset, .unset, .unset] [(.int w1), (.ref b43), (.ref b43)])) t
      refine XS.iload X43.here hx rfl (hb hby at_69) rfl ?_
      exact k)
  obtain ⟨_, _, ⟨T47, L47, k47, n47⟩, -, X47, ⟨Lc47, hQ47, l47, y47, z47⟩, st47⟩ := X43.specialBack hx (y := (⟨"com/example/vetter/vetter/profile/Resolution", "<init>", "(II)V"⟩ : MethodName)) rfl hown (mvT hZ (hw _ (List.mem_of_getElem? (i := 12) rfl))) (mvT hZ (hw _ (List.mem_of_getElem? (i := 13) rfl))) (mvT hZ (hw _ (List.mem_of_getElem? (i := 14) rfl))) (by decide) (backOf (W := 1) (rmC l Z a0 hw [] b43 w1 h1 h43 n0 Z45 A43 g_b43 F_width_b43 F_height_b43 pw1 ph1) hZ (hw _ (List.mem_of_getElem? (i := 14) rfl)) (hw _ (List.mem_of_getElem? (i := 11) rfl)) (by decide) (by decide)) (g := (mkF m 71 #[.val (.int p1), .val (.int p2), .val (.int p3), .val (.int p4), .val (.int p5), .val (.int w1), .val (.int h1), .val (.int w2), .val (.int h2), .unset, .unset, .unset, .unset, .unset] [(.int h1), (.int w1), (.ref b43), (.ref b43)])) rfl (by rw [hml]; rfl) (Steps.refl _) (a := b43) (argsL := [(.int w1), (.int h1)]) (rest := [(.ref b43)]) (lenOf pdL_1 rfl) rfl (by show 2 * 0 + _ ≤ _; exact Nat.le_of_eq rfl) (hb hby at_71) (fun _ _ => ⟨rfl, e43, (by decide : 1 + 0 ≤ _), (by decide : 2 + 0 ≤ _)⟩)
  dsimp only [Pt.U, Pt.locs, Pt.cells, Pt.slots] at X47 l47 y47 z47 st47 hQ47
  subst l47 y47 z47
  obtain ⟨rfl, N47q, K47, EX47, GW47, GH47⟩ := hQ47
  have N47 := Fr.app N8 N47q
  have pre48 : Go p e below T47 (mkF m 74 #[.val (.int p1), .val (.int p2), .val (.int p3), .val (.int p4), .val (.int p5), .val (.int w1), .val (.int h1), .val (.int w2), .val (.int h2), .unset, .unset, .unset, .unset, .unset] [(.ref b43)]) s₁ (entryFrame m #[(.int p1), (.int p2), (.int p3), (.int p4), (.int p5)] maxLocals) := fun t k => pre46 t (st47.trans k)
  have O49 : Old Z n0 T47.heap := O45.keep K47 (allS g_b43 all0)
  have Z49 : n0 ≤ T47.heap.size := Nat.le_trans Z45 K47.1
  have pre50 : Go p e below T47 (mkF m 76 #[.val (.int p1), .val (.int p2), .val (.int p3), .val (.int p4), .val (.int p5), .val (.int w1), .val (.int h1), .val (.int w2), .val (.int h2), .val (.ref b43), .unset, .unset, .unset, .unset] []) s₁ (entryFrame m #[(.int p1), (.int p2), (.int p3), (.int p4), (.int p5)] maxLocals) := fun t k => pre48 t (by
      show Steps p.tables e below (T47.setTop (mkF m 74 #[.val (.int p1), .val (.int p2), .val (.int p3), .val (.int p4), .val (.int p5), .val (.int w1), .val (.int h1), .val (.int w2), .val (.int h2), .unset, .unset, .unset, .unset, .unset] [(.ref b43)])) t
      refine XS.astore X47.here hx rfl (hb hby at_74) rfl rfl (l' := #[.val (.int p1), .val (.int p2), .val (.int p3), .val (.int p4), .val (.int p5), .val (.int w1), .val (.int h1), .val (.int w2), .val (.int h2), .val (.ref b43), .unset, .unset, .unset, .unset]) rfl ?_
      exact k)
  obtain ⟨T51, h51, X51, e51, Et51, A51, D51, U51, st51⟩ := newO X47 hx hZ hown (hw _ (List.mem_of_getElem? (i := 9) rfl)) (hw _ (List.mem_of_getElem? (i := 10) rfl)) (hw _ (List.mem_of_getElem? (i := 11) rfl)) rfl (g := (mkF m 76 #[.val (.int p1), .val (.int p2), .val (.int p3), .val (.int p4), .val (.int p5), .val (.int w1), .val (.int h1), .val (.int w2), .val (.int h2), .val (.ref b43), .unset, .unset, .unset, .unset] [])) rfl (hb hby at_76) (by decide) (by decide)
  obtain ⟨b51, g51⟩ : ∃ z, z = T47.heap.size := ⟨_, rfl⟩
  rw [← g51] at A51 st51 D51
  have g_b51 : n0 ≤ b51 := Nat.le_trans Z49 (Nat.le_of_eq g51.symm)
  have ne_b43_b51 : b43 ≠ b51 := Nat.ne_of_lt (Nat.lt_of_lt_of_le EX47.lt (Nat.le_of_eq g51.symm))
  have pre52 : Go p e below T51 (mkF m 79 #[.val (.int p1), .val (.int p2), .val (.int p3), .val (.int p4), .val (.int p5), .val (.int w1), .val (.int h1), .val (.int w2), .val (.int h2), .val (.ref b43), .unset, .unset, .unset, .unset] [(.ref b51)]) s₁ (entryFrame m #[(.int p1), (.int p2), (.int p3), (.int p4), (.int p5)] maxLocals) := fun t k => pre50 t (st51 t k)
  have O53 : Old Z n0 h51 := O49.ext Et51
  have Z53 : n0 ≤ h51.size := Nat.le_trans Z49 Et51.1
  have F_width_b51 : Fld Z h51 b51 "com/example/vetter/vetter/profile/Resolution" "width" "I" (.int (0 : Int32)) := D51 (Or.inr (hw _ (List.mem_of_getElem? (i := 19) rfl))) (ty := .int) (by decide)
  have F_height_b51 : Fld Z h51 b51 "com/example/vetter/vetter/profile/Resolution" "height" "I" (.int (0 : Int32)) := D51 (Or.inr (hw _ (List.mem_of_getElem? (i := 21) rfl))) (ty := .int) (by decide)
  have pre54 : Go p e below T51 (mkF m 84 #[.val (.int p1), .val (.int p2), .val (.int p3), .val (.int p4), .val (.int p5), .val (.int w1), .val (.int h1), .val (.int w2), .val (.int h2), .val (.ref b43), .unset, .unset, .unset, .unset] [(.int h2), (.int w2), (.ref b51), (.ref b51)]) s₁ (entryFrame m #[(.int p1), (.int p2), (.int p3), (.int p4), (.int p5)] maxLocals) := fun t k => pre52 t (by
      show Steps p.tables e below (T51.setTop (mkF m 79 #[.val (.int p1), .val (.int p2), .val (.int p3), .val (.int p4), .val (.int p5), .val (.int w1), .val (.int h1), .val (.int w2), .val (.int h2), .val (.ref b43), .unset, .unset, .unset, .unset] [(.ref b51)])) t
      refine XS.dup X51.here hx rfl (hb hby at_79) rfl rfl ?_
      show Steps p.tables e below (T51.setTop (mkF m 80 #[.val (.int p1), .val (.int p2), .val (.int p3), .val (.int p4), .val (.int p5), .val (.int w1), .val (.int h1), .val (.int w2), .val (.int h2), .val (.ref b43), .unset, .unset, .unset, .unset] [(.ref b51), (.ref b51)])) t
      refine XS.iload X51.here hx rfl (hb hby at_80) rfl ?_
      show Steps p.tables e below (T51.setTop (mkF m 82 #[.val (.int p1), .val (.int p2), .val (.int p3), .val (.int p4), .val (.int p5), .val (.int w1), .val (.int h1), .val (.int w2), .val (.int h2), .val (.ref b43), .unset, .unset, .unset, .unset] [(.int w2), (.ref b51), (.ref b51)])) t
      refine XS.iload X51.here hx rfl (hb hby at_82) rfl ?_
      exact k)
  obtain ⟨_, _, ⟨T55, L55, k55, n55⟩, -, X55, ⟨Lc55, hQ55, l55, y55, z55⟩, st55⟩ := X51.specialBack hx (y := (⟨"com/example/vetter/vetter/profile/Resolution", "<init>", "(II)V"⟩ : MethodName)) rfl hown (mvT hZ (hw _ (List.mem_of_getElem? (i := 12) rfl))) (mvT hZ (hw _ (List.mem_of_getElem? (i := 13) rfl))) (mvT hZ (hw _ (List.mem_of_getElem? (i := 14) rfl))) (by decide) (backOf (W := 1) (rmC l Z a0 hw [] b51 w2 h2 h51 n0 Z53 A51 g_b51 F_width_b51 F_height_b51 pw2 ph2) hZ (hw _ (List.mem_of_getElem? (i := 14) rfl)) (hw _ (List.mem_of_getElem? (i := 11) rfl)) (by decide) (by decide)) (g := (mkF m 84 #[.val (.int p1), .val (.int p2), .val (.int p3), .val (.int p4), .val (.int p5), .val (.int w1), .val (.int h1), .val (.int w2), .val (.int h2), .val (.ref b43), .unset, .unset, .unset, .unset] [(.int h2), (.int w2), (.ref b51), (.ref b51)])) rfl (by rw [hml]; rfl) (Steps.refl _) (a := b51) (argsL := [(.int w2), (.int h2)]) (rest := [(.ref b51)]) (lenOf pdL_1 rfl) rfl (by show 2 * 0 + _ ≤ _; exact Nat.le_of_eq rfl) (hb hby at_84) (fun _ _ => ⟨rfl, e51, (by decide : 2 + 0 ≤ _), (by decide : 4 + 0 ≤ _)⟩)
  dsimp only [Pt.U, Pt.locs, Pt.cells, Pt.slots] at X55 l55 y55 z55 st55 hQ55
  subst l55 y55 z55
  obtain ⟨rfl, N55q, K55, EX55, GW55, GH55⟩ := hQ55
  have N55 := Fr.app N47 N55q
  have pre56 : Go p e below T55 (mkF m 87 #[.val (.int p1), .val (.int p2), .val (.int p3), .val (.int p4), .val (.int p5), .val (.int w1), .val (.int h1), .val (.int w2), .val (.int h2), .val (.ref b43), .unset, .unset, .unset, .unset] [(.ref b51)]) s₁ (entryFrame m #[(.int p1), (.int p2), (.int p3), (.int p4), (.int p5)] maxLocals) := fun t k => pre54 t (st55.trans k)
  have O57 : Old Z n0 T55.heap := O53.keep K55 (allS g_b51 all0)
  have Z57 : n0 ≤ T55.heap.size := Nat.le_trans Z53 K55.1
  have pre58 : Go p e below T55 (mkF m 89 #[.val (.int p1), .val (.int p2), .val (.int p3), .val (.int p4), .val (.int p5), .val (.int w1), .val (.int h1), .val (.int w2), .val (.int h2), .val (.ref b43), .val (.ref b51), .unset, .unset, .unset] []) s₁ (entryFrame m #[(.int p1), (.int p2), (.int p3), (.int p4), (.int p5)] maxLocals) := fun t k => pre56 t (by
      show Steps p.tables e below (T55.setTop (mkF m 87 #[.val (.int p1), .val (.int p2), .val (.int p3), .val (.int p4), .val (.int p5), .val (.int w1), .val (.int h1), .val (.int w2), .val (.int h2), .val (.ref b43), .unset, .unset, .unset, .unset] [(.ref b51)])) t
      refine XS.astore X55.here hx rfl (hb hby at_87) rfl rfl (l' := #[.val (.int p1), .val (.int p2), .val (.int p3), .val (.int p4), .val (.int p5), .val (.int w1), .val (.int h1), .val (.int w2), .val (.int h2), .val (.ref b43), .val (.ref b51), .unset, .unset, .unset]) rfl ?_
      exact k)
  obtain ⟨T59, LJ59, ex1, X59, N59, e59, hj59_0, pre59⟩ : ∃ (TJ : State) (LJ : List Loc) (ex1 : Int32), Stand p l e room_1 s m #[(.int p1), (.int p2), (.int p3), (.int p4), (.int p5)] below meth c TJ LJ 2 4 ∧ Fr n0 LJ ∧ TJ.heap = T55.heap ∧ ex1 = eqF w1 h1 w2 h2 ∧ Go p e below TJ (mkF m 110 #[.val (.int p1), .val (.int p2), .val (.int p3), .val (.int p4), .val (.int p5), .val (.int w1), .val (.int h1), .val (.int w2), .val (.int h2), .val (.ref b43), .val (.ref b51), .val (.int ex1), .unset, .unset] []) s₁ (entryFrame m #[(.int p1), (.int p2), (.int p3), (.int p4), (.int p5)] maxLocals) := by
    have pre60 : Go p e below T55 (mkF m 93 #[.val (.int p1), .val (.int p2), .val (.int p3), .val (.int p4), .val (.int p5), .val (.int w1), .val (.int h1), .val (.int w2), .val (.int h2), .val (.ref b43), .val (.ref b51), .unset, .unset, .unset] [(.int w2), (.int w1)]) s₁ (entryFrame m #[(.int p1), (.int p2), (.int p3), (.int p4), (.int p5)] maxLocals) := fun t k => pre58 t (by
        show Steps p.tables e below (T55.setTop (mkF m 89 #[.val (.int p1), .val (.int p2), .val (.int p3), .val (.int p4), .val (.int p5), .val (.int w1), .val (.int h1), .val (.int w2), .val (.int h2), .val (.ref b43), .val (.ref b51), .unset, .unset, .unset] [])) t
        refine XS.iload X55.here hx rfl (hb hby at_89) rfl ?_
        show Steps p.tables e below (T55.setTop (mkF m 91 #[.val (.int p1), .val (.int p2), .val (.int p3), .val (.int p4), .val (.int p5), .val (.int w1), .val (.int h1), .val (.int w2), .val (.int h2), .val (.ref b43), .val (.ref b51), .unset, .unset, .unset] [(.int w1)])) t
        refine XS.iload X55.here hx rfl (hb hby at_91) rfl ?_
        exact k)
    by_cases hc93 : w1 = w2
    · have pre61 : Go p e below T55 (mkF m 96 #[.val (.int p1), .val (.int p2), .val (.int p3), .val (.int p4), .val (.int p5), .val (.int w1), .val (.int h1), .val (.int w2), .val (.int h2), .val (.ref b43), .val (.ref b51), .unset, .unset, .unset] []) s₁ (entryFrame m #[(.int p1), (.int p2), (.int p3), (.int p4), (.int p5)] maxLocals) := fun t k => pre60 t (XS.icmpNo X55.here hx rfl (hb hby at_93) rfl (teq hc93).2 k)
      have pre62 : Go p e below T55 (mkF m 100 #[.val (.int p1), .val (.int p2), .val (.int p3), .val (.int p4), .val (.int p5), .val (.int w1), .val (.int h1), .val (.int w2), .val (.int h2), .val (.ref b43), .val (.ref b51), .unset, .unset, .unset] [(.int h2), (.int h1)]) s₁ (entryFrame m #[(.int p1), (.int p2), (.int p3), (.int p4), (.int p5)] maxLocals) := fun t k => pre61 t (by
          show Steps p.tables e below (T55.setTop (mkF m 96 #[.val (.int p1), .val (.int p2), .val (.int p3), .val (.int p4), .val (.int p5), .val (.int w1), .val (.int h1), .val (.int w2), .val (.int h2), .val (.ref b43), .val (.ref b51), .unset, .unset, .unset] [])) t
          refine XS.iload X55.here hx rfl (hb hby at_96) rfl ?_
          show Steps p.tables e below (T55.setTop (mkF m 98 #[.val (.int p1), .val (.int p2), .val (.int p3), .val (.int p4), .val (.int p5), .val (.int w1), .val (.int h1), .val (.int w2), .val (.int h2), .val (.ref b43), .val (.ref b51), .unset, .unset, .unset] [(.int h1)])) t
          refine XS.iload X55.here hx rfl (hb hby at_98) rfl ?_
          exact k)
      by_cases hc100 : h1 = h2
      · have pre63 : Go p e below T55 (mkF m 103 #[.val (.int p1), .val (.int p2), .val (.int p3), .val (.int p4), .val (.int p5), .val (.int w1), .val (.int h1), .val (.int w2), .val (.int h2), .val (.ref b43), .val (.ref b51), .unset, .unset, .unset] []) s₁ (entryFrame m #[(.int p1), (.int p2), (.int p3), (.int p4), (.int p5)] maxLocals) := fun t k => pre62 t (XS.icmpNo X55.here hx rfl (hb hby at_100) rfl (teq hc100).2 k)
        have pre64 : Go p e below T55 (mkF m 110 #[.val (.int p1), .val (.int p2), .val (.int p3), .val (.int p4), .val (.int p5), .val (.int w1), .val (.int h1), .val (.int w2), .val (.int h2), .val (.ref b43), .val (.ref b51), .val (.int (1 : Int32)), .unset, .unset] []) s₁ (entryFrame m #[(.int p1), (.int p2), (.int p3), (.int p4), (.int p5)] maxLocals) := fun t k => pre63 t (by
            show Steps p.tables e below (T55.setTop (mkF m 103 #[.val (.int p1), .val (.int p2), .val (.int p3), .val (.int p4), .val (.int p5), .val (.int w1), .val (.int h1), .val (.int w2), .val (.int h2), .val (.ref b43), .val (.ref b51), .unset, .unset, .unset] [])) t
            refine XS.iconst X55.here hx rfl (hb hby at_103) ?_
            show Steps p.tables e below (T55.setTop (mkF m 104 #[.val (.int p1), .val (.int p2), .val (.int p3), .val (.int p4), .val (.int p5), .val (.int w1), .val (.int h1), .val (.int w2), .val (.int h2), .val (.ref b43), .val (.ref b51), .unset, .unset, .unset] [(.int (1 : Int32))])) t
            refine XS.goto X55.here hx rfl (pc0 := 104) (pc' := 108) rfl (hb hby at_104) (by decide) (by decide) ?_
            show Steps p.tables e below (T55.setTop (mkF m 108 #[.val (.int p1), .val (.int p2), .val (.int p3), .val (.int p4), .val (.int p5), .val (.int w1), .val (.int h1), .val (.int w2), .val (.int h2), .val (.ref b43), .val (.ref b51), .unset, .unset, .unset] [(.int (1 : Int32))])) t
            refine XS.istore X55.here hx rfl (hb hby at_108) rfl (l' := #[.val (.int p1), .val (.int p2), .val (.int p3), .val (.int p4), .val (.int p5), .val (.int w1), .val (.int h1), .val (.int w2), .val (.int h2), .val (.ref b43), .val (.ref b51), .val (.int (1 : Int32)), .unset, .unset]) rfl ?_
            exact k)
        exact ⟨_, _, (1 : Int32), X55, N55, rfl, (by simp [eqF, hc93, hc100]), pre64⟩
      · have pre65 : Go p e below T55 (mkF m 107 #[.val (.int p1), .val (.int p2), .val (.int p3), .val (.int p4), .val (.int p5), .val (.int w1), .val (.int h1), .val (.int w2), .val (.int h2), .val (.ref b43), .val (.ref b51), .unset, .unset, .unset] []) s₁ (entryFrame m #[(.int p1), (.int p2), (.int p3), (.int p4), (.int p5)] maxLocals) := fun t k => pre62 t (XS.icmpYes X55.here hx rfl (pc0 := 100) (pc' := 107) rfl (hb hby at_100) rfl (feq hc100).2 (by decide) (by decide) k)
        have pre66 : Go p e below T55 (mkF m 110 #[.val (.int p1), .val (.int p2), .val (.int p3), .val (.int p4), .val (.int p5), .val (.int w1), .val (.int h1), .val (.int w2), .val (.int h2), .val (.ref b43), .val (.ref b51), .val (.int (0 : Int32)), .unset, .unset] []) s₁ (entryFrame m #[(.int p1), (.int p2), (.int p3), (.int p4), (.int p5)] maxLocals) := fun t k => pre65 t (by
            show Steps p.tables e below (T55.setTop (mkF m 107 #[.val (.int p1), .val (.int p2), .val (.int p3), .val (.int p4), .val (.int p5), .val (.int w1), .val (.int h1), .val (.int w2), .val (.int h2), .val (.ref b43), .val (.ref b51), .unset, .unset, .unset] [])) t
            refine XS.iconst X55.here hx rfl (hb hby at_107) ?_
            show Steps p.tables e below (T55.setTop (mkF m 108 #[.val (.int p1), .val (.int p2), .val (.int p3), .val (.int p4), .val (.int p5), .val (.int w1), .val (.int h1), .val (.int w2), .val (.int h2), .val (.ref b43), .val (.ref b51), .unset, .unset, .unset] [(.int (0 : Int32))])) t
            refine XS.istore X55.here hx rfl (hb hby at_108) rfl (l' := #[.val (.int p1), .val (.int p2), .val (.int p3), .val (.int p4), .val (.int p5), .val (.int w1), .val (.int h1), .val (.int w2), .val (.int h2), .val (.ref b43), .val (.ref b51), .val (.int (0 : Int32)), .unset, .unset]) rfl ?_
            exact k)
        exact ⟨_, _, (0 : Int32), X55, N55, rfl, (by simp [eqF, hc93, hc100]), pre66⟩
    · have pre67 : Go p e below T55 (mkF m 107 #[.val (.int p1), .val (.int p2), .val (.int p3), .val (.int p4), .val (.int p5), .val (.int w1), .val (.int h1), .val (.int w2), .val (.int h2), .val (.ref b43), .val (.ref b51), .unset, .unset, .unset] []) s₁ (entryFrame m #[(.int p1), (.int p2), (.int p3), (.int p4), (.int p5)] maxLocals) := fun t k => pre60 t (XS.icmpYes X55.here hx rfl (pc0 := 93) (pc' := 107) rfl (hb hby at_93) rfl (feq hc93).2 (by decide) (by decide) k)
      have pre68 : Go p e below T55 (mkF m 110 #[.val (.int p1), .val (.int p2), .val (.int p3), .val (.int p4), .val (.int p5), .val (.int w1), .val (.int h1), .val (.int w2), .val (.int h2), .val (.ref b43), .val (.ref b51), .val (.int (0 : Int32)), .unset, .unset] []) s₁ (entryFrame m #[(.int p1), (.int p2), (.int p3), (.int p4), (.int p5)] maxLocals) := fun t k => pre67 t (by
          show Steps p.tables e below (T55.setTop (mkF m 107 #[.val (.int p1), .val (.int p2), .val (.int p3), .val (.int p4), .val (.int p5), .val (.int w1), .val (.int h1), .val (.int w2), .val (.int h2), .val (.ref b43), .val (.ref b51), .unset, .unset, .unset] [])) t
          refine XS.iconst X55.here hx rfl (hb hby at_107) ?_
          show Steps p.tables e below (T55.setTop (mkF m 108 #[.val (.int p1), .val (.int p2), .val (.int p3), .val (.int p4), .val (.int p5), .val (.int w1), .val (.int h1), .val (.int w2), .val (.int h2), .val (.ref b43), .val (.ref b51), .unset, .unset, .unset] [(.int (0 : Int32))])) t
          refine XS.istore X55.here hx rfl (hb hby at_108) rfl (l' := #[.val (.int p1), .val (.int p2), .val (.int p3), .val (.int p4), .val (.int p5), .val (.int w1), .val (.int h1), .val (.int w2), .val (.int h2), .val (.ref b43), .val (.ref b51), .val (.int (0 : Int32)), .unset, .unset]) rfl ?_
          exact k)
      exact ⟨_, _, (0 : Int32), X55, N55, rfl, (by simp [eqF, hc93]), pre68⟩
  have pre69 : Go p e below T59 (mkF m 120 #[.val (.int p1), .val (.int p2), .val (.int p3), .val (.int p4), .val (.int p5), .val (.int w1), .val (.int h1), .val (.int w2), .val (.int h2), .val (.ref b43), .val (.ref b51), .val (.int ex1), .val (.int (((p5.toUInt32 >>> ((3 : Int32) &&& 31).toUInt32).toInt32) &&& (3 : Int32))), .unset] [(.int (((p5.toUInt32 >>> ((3 : Int32) &&& 31).toUInt32).toInt32) &&& (3 : Int32)))]) s₁ (entryFrame m #[(.int p1), (.int p2), (.int p3), (.int p4), (.int p5)] maxLocals) := fun t k => pre59 t (by
      show Steps p.tables e below (T59.setTop (mkF m 110 #[.val (.int p1), .val (.int p2), .val (.int p3), .val (.int p4), .val (.int p5), .val (.int w1), .val (.int h1), .val (.int w2), .val (.int h2), .val (.ref b43), .val (.ref b51), .val (.int ex1), .unset, .unset] [])) t
      refine XS.iload X59.here hx rfl (hb hby at_110) rfl ?_
      show Steps p.tables e below (T59.setTop (mkF m 112 #[.val (.int p1), .val (.int p2), .val (.int p3), .val (.int p4), .val (.int p5), .val (.int w1), .val (.int h1), .val (.int w2), .val (.int h2), .val (.ref b43), .val (.ref b51), .val (.int ex1), .unset, .unset] [(.int p5)])) t
      refine XS.iconst X59.here hx rfl (hb hby at_112) ?_
      show Steps p.tables e below (T59.setTop (mkF m 113 #[.val (.int p1), .val (.int p2), .val (.int p3), .val (.int p4), .val (.int p5), .val (.int w1), .val (.int h1), .val (.int w2), .val (.int h2), .val (.ref b43), .val (.ref b51), .val (.int ex1), .unset, .unset] [(.int (3 : Int32)), (.int p5)])) t
      refine XS.iushr X59.here hx rfl (hb hby at_113) rfl ?_
      show Steps p.tables e below (T59.setTop (mkF m 114 #[.val (.int p1), .val (.int p2), .val (.int p3), .val (.int p4), .val (.int p5), .val (.int w1), .val (.int h1), .val (.int w2), .val (.int h2), .val (.ref b43), .val (.ref b51), .val (.int ex1), .unset, .unset] [(.int ((p5.toUInt32 >>> ((3 : Int32) &&& 31).toUInt32).toInt32))])) t
      refine XS.iconst X59.here hx rfl (hb hby at_114) ?_
      show Steps p.tables e below (T59.setTop (mkF m 115 #[.val (.int p1), .val (.int p2), .val (.int p3), .val (.int p4), .val (.int p5), .val (.int w1), .val (.int h1), .val (.int w2), .val (.int h2), .val (.ref b43), .val (.ref b51), .val (.int ex1), .unset, .unset] [(.int (3 : Int32)), (.int ((p5.toUInt32 >>> ((3 : Int32) &&& 31).toUInt32).toInt32))])) t
      refine XS.iand X59.here hx rfl (hb hby at_115) rfl ?_
      show Steps p.tables e below (T59.setTop (mkF m 116 #[.val (.int p1), .val (.int p2), .val (.int p3), .val (.int p4), .val (.int p5), .val (.int w1), .val (.int h1), .val (.int w2), .val (.int h2), .val (.ref b43), .val (.ref b51), .val (.int ex1), .unset, .unset] [(.int (((p5.toUInt32 >>> ((3 : Int32) &&& 31).toUInt32).toInt32) &&& (3 : Int32)))])) t
      refine XS.istore X59.here hx rfl (hb hby at_116) rfl (l' := #[.val (.int p1), .val (.int p2), .val (.int p3), .val (.int p4), .val (.int p5), .val (.int w1), .val (.int h1), .val (.int w2), .val (.int h2), .val (.ref b43), .val (.ref b51), .val (.int ex1), .val (.int (((p5.toUInt32 >>> ((3 : Int32) &&& 31).toUInt32).toInt32) &&& (3 : Int32))), .unset]) rfl ?_
      show Steps p.tables e below (T59.setTop (mkF m 118 #[.val (.int p1), .val (.int p2), .val (.int p3), .val (.int p4), .val (.int p5), .val (.int w1), .val (.int h1), .val (.int w2), .val (.int h2), .val (.ref b43), .val (.ref b51), .val (.int ex1), .val (.int (((p5.toUInt32 >>> ((3 : Int32) &&& 31).toUInt32).toInt32) &&& (3 : Int32))), .unset] [])) t
      refine XS.iload X59.here hx rfl (hb hby at_118) rfl ?_
      exact k)
  by_cases hc120 : (((p5.toUInt32 >>> ((3 : Int32) &&& 31).toUInt32).toInt32) &&& (3 : Int32)) = (0 : Int32)
  · have pre70 : Go p e below T59 (mkF m 123 #[.val (.int p1), .val (.int p2), .val (.int p3), .val (.int p4), .val (.int p5), .val (.int w1), .val (.int h1), .val (.int w2), .val (.int h2), .val (.ref b43), .val (.ref b51), .val (.int ex1), .val (.int (((p5.toUInt32 >>> ((3 : Int32) &&& 31).toUInt32).toInt32) &&& (3 : Int32))), .unset] []) s₁ (entryFrame m #[(.int p1), (.int p2), (.int p3), (.int p4), (.int p5)] maxLocals) := fun t k => pre69 t (XS.ifNo X59.here hx rfl (hb hby at_120) rfl ((if0 _ _).trans (teq hc120).2) k)
    have pre71 : Go p e below T59 (mkF m 127 #[.val (.int p1), .val (.int p2), .val (.int p3), .val (.int p4), .val (.int p5), .val (.int w1), .val (.int h1), .val (.int w2), .val (.int h2), .val (.ref b43), .val (.ref b51), .val (.int ex1), .val (.int (((p5.toUInt32 >>> ((3 : Int32) &&& 31).toUInt32).toInt32) &&& (3 : Int32))), .unset] [(.ref b51), (.ref b43)]) s₁ (entryFrame m #[(.int p1), (.int p2), (.int p3), (.int p4), (.int p5)] maxLocals) := fun t k => pre70 t (by
        show Steps p.tables e below (T59.setTop (mkF m 123 #[.val (.int p1), .val (.int p2), .val (.int p3), .val (.int p4), .val (.int p5), .val (.int w1), .val (.int h1), .val (.int w2), .val (.int h2), .val (.ref b43), .val (.ref b51), .val (.int ex1), .val (.int (((p5.toUInt32 >>> ((3 : Int32) &&& 31).toUInt32).toInt32) &&& (3 : Int32))), .unset] [])) t
        refine XS.aload X59.here hx rfl (hb hby at_123) rfl rfl ?_
        show Steps p.tables e below (T59.setTop (mkF m 125 #[.val (.int p1), .val (.int p2), .val (.int p3), .val (.int p4), .val (.int p5), .val (.int w1), .val (.int h1), .val (.int w2), .val (.int h2), .val (.ref b43), .val (.ref b51), .val (.int ex1), .val (.int (((p5.toUInt32 >>> ((3 : Int32) &&& 31).toUInt32).toInt32) &&& (3 : Int32))), .unset] [(.ref b43)])) t
        refine XS.aload X59.here hx rfl (hb hby at_125) rfl rfl ?_
        exact k)
    obtain ⟨cq72, kq72, q72a, q72b, q72c⟩ := isOf hZ e59 ((EX47.ext Et51).keep K55)
    obtain ⟨_, _, ⟨T72, L72, k72, n72⟩, -, X72, ⟨Lc72, hQ72, l72, y72, z72⟩, st72⟩ := X59.virtualBack hx (y := (⟨"com/example/vetter/vetter/profile/Resolution", "equals", "(Ljava/lang/Object;)Z"⟩ : MethodName)) (z := (⟨"com/example/vetter/vetter/profile/Resolution", "equals", "(Ljava/lang/Object;)Z"⟩ : MethodName)) hown (mvT hZ (hw _ (List.mem_of_getElem? (i := 22) rfl))) (mvT hZ (hw _ (List.mem_of_getElem? (i := 23) rfl))) (notFace_of_selects (args := #[]) (mvT hZ (hw _ (List.mem_of_getElem? (i := 25) rfl)))) (mvT hZ (hw _ (List.mem_of_getElem? (i := 25) rfl))) (mvT hZ (hw _ (List.mem_of_getElem? (i := 24) rfl))) (by decide) (backOf (W := 0) (rmE l Z a0 hw [] b43 b51 w1 h1 w2 h2 ex1 T55.heap n0 Z57 EX55 ((GW47.ext Et51).keep K55 (ninS ne_b43_b51 nin0)) ((GH47.ext Et51).keep K55 (ninS ne_b43_b51 nin0)) GW55 GH55 ((own_res1 _ _ _ _).trans hj59_0.symm)) hZ (hw _ (List.mem_of_getElem? (i := 26) rfl)) (hw _ (List.mem_of_getElem? (i := 11) rfl)) (by decide) (by decide)) q72a q72c (g := (mkF m 127 #[.val (.int p1), .val (.int p2), .val (.int p3), .val (.int p4), .val (.int p5), .val (.int w1), .val (.int h1), .val (.int w2), .val (.int h2), .val (.ref b43), .val (.ref b51), .val (.int ex1), .val (.int (((p5.toUInt32 >>> ((3 : Int32) &&& 31).toUInt32).toInt32) &&& (3 : Int32))), .unset] [(.ref b51), (.ref b43)])) rfl (by rw [hml]; rfl) (Steps.refl _) (argsL := [(.ref b51)]) (rest := []) (lenOf pdL_2 rfl) rfl (by show 2 * 0 + _ ≤ _; exact Nat.le_of_eq rfl) (hb hby at_127) (fun _ _ => ⟨rfl, e59, (by decide : 2 + 0 ≤ _), (by decide : 4 + 0 ≤ _)⟩)
    dsimp only [Pt.U, Pt.locs, Pt.cells, Pt.slots] at X72 l72 y72 z72 st72 hQ72
    subst l72 y72 z72
    obtain ⟨rfl, N72q, hq72⟩ := hQ72
    have N72 := Fr.app N59 N72q
    have pre73 : Go p e below T72 (mkF m 130 #[.val (.int p1), .val (.int p2), .val (.int p3), .val (.int p4), .val (.int p5), .val (.int w1), .val (.int h1), .val (.int w2), .val (.int h2), .val (.ref b43), .val (.ref b51), .val (.int ex1), .val (.int (((p5.toUInt32 >>> ((3 : Int32) &&& 31).toUInt32).toInt32) &&& (3 : Int32))), .unset] [(.int ex1)]) s₁ (entryFrame m #[(.int p1), (.int p2), (.int p3), (.int p4), (.int p5)] maxLocals) := fun t k => pre71 t (st72.trans k)
    have e72 : T72.heap = T55.heap := hq72
    have pre74 : Go p e below T72 (mkF m 132 #[.val (.int p1), .val (.int p2), .val (.int p3), .val (.int p4), .val (.int p5), .val (.int w1), .val (.int h1), .val (.int w2), .val (.int h2), .val (.ref b43), .val (.ref b51), .val (.int ex1), .val (.int (((p5.toUInt32 >>> ((3 : Int32) &&& 31).toUInt32).toInt32) &&& (3 : Int32))), .unset] [(.int ex1), (.int ex1)]) s₁ (entryFrame m #[(.int p1), (.int p2), (.int p3), (.int p4), (.int p5)] maxLocals) := fun t k => pre73 t (by
        show Steps p.tables e below (T72.setTop (mkF m 130 #[.val (.int p1), .val (.int p2), .val (.int p3), .val (.int p4), .val (.int p5), .val (.int w1), .val (.int h1), .val (.int w2), .val (.int h2), .val (.ref b43), .val (.ref b51), .val (.int ex1), .val (.int (((p5.toUInt32 >>> ((3 : Int32) &&& 31).toUInt32).toInt32) &&& (3 : Int32))), .unset] [(.int ex1)])) t
        refine XS.iload X72.here hx rfl (hb hby at_130) rfl ?_
        exact k)
    have pre75 : Go p e below T72 (mkF m 135 #[.val (.int p1), .val (.int p2), .val (.int p3), .val (.int p4), .val (.int p5), .val (.int w1), .val (.int h1), .val (.int w2), .val (.int h2), .val (.ref b43), .val (.ref b51), .val (.int ex1), .val (.int (((p5.toUInt32 >>> ((3 : Int32) &&& 31).toUInt32).toInt32) &&& (3 : Int32))), .unset] []) s₁ (entryFrame m #[(.int p1), (.int p2), (.int p3), (.int p4), (.int p5)] maxLocals) := fun t k => pre74 t (XS.icmpNo X72.here hx rfl (hb hby at_132) rfl (teq (rfl : ex1 = ex1)).2 k)
    have pre76 : Go p e below T72 (mkF m 139 #[.val (.int p1), .val (.int p2), .val (.int p3), .val (.int p4), .val (.int p5), .val (.int w1), .val (.int h1), .val (.int w2), .val (.int h2), .val (.ref b43), .val (.ref b51), .val (.int ex1), .val (.int (((p5.toUInt32 >>> ((3 : Int32) &&& 31).toUInt32).toInt32) &&& (3 : Int32))), .unset] [(.ref b43), (.ref b51)]) s₁ (entryFrame m #[(.int p1), (.int p2), (.int p3), (.int p4), (.int p5)] maxLocals) := fun t k => pre75 t (by
        show Steps p.tables e below (T72.setTop (mkF m 135 #[.val (.int p1), .val (.int p2), .val (.int p3), .val (.int p4), .val (.int p5), .val (.int w1), .val (.int h1), .val (.int w2), .val (.int h2), .val (.ref b43), .val (.ref b51), .val (.int ex1), .val (.int (((p5.toUInt32 >>> ((3 : Int32) &&& 31).toUInt32).toInt32) &&& (3 : Int32))), .unset] [])) t
        refine XS.aload X72.here hx rfl (hb hby at_135) rfl rfl ?_
        show Steps p.tables e below (T72.setTop (mkF m 137 #[.val (.int p1), .val (.int p2), .val (.int p3), .val (.int p4), .val (.int p5), .val (.int w1), .val (.int h1), .val (.int w2), .val (.int h2), .val (.ref b43), .val (.ref b51), .val (.int ex1), .val (.int (((p5.toUInt32 >>> ((3 : Int32) &&& 31).toUInt32).toInt32) &&& (3 : Int32))), .unset] [(.ref b51)])) t
        refine XS.aload X72.here hx rfl (hb hby at_137) rfl rfl ?_
        exact k)
    obtain ⟨cq77, kq77, q77a, q77b, q77c⟩ := isOf hZ e72 EX55
    obtain ⟨_, _, ⟨T77, L77, k77, n77⟩, -, X77, ⟨Lc77, hQ77, l77, y77, z77⟩, st77⟩ := X72.virtualBack hx (y := (⟨"com/example/vetter/vetter/profile/Resolution", "equals", "(Ljava/lang/Object;)Z"⟩ : MethodName)) (z := (⟨"com/example/vetter/vetter/profile/Resolution", "equals", "(Ljava/lang/Object;)Z"⟩ : MethodName)) hown (mvT hZ (hw _ (List.mem_of_getElem? (i := 22) rfl))) (mvT hZ (hw _ (List.mem_of_getElem? (i := 23) rfl))) (notFace_of_selects (args := #[]) (mvT hZ (hw _ (List.mem_of_getElem? (i := 25) rfl)))) (mvT hZ (hw _ (List.mem_of_getElem? (i := 25) rfl))) (mvT hZ (hw _ (List.mem_of_getElem? (i := 24) rfl))) (by decide) (backOf (W := 0) (rmE l Z a0 hw [] b51 b43 w2 h2 w1 h1 ex1 T55.heap n0 Z57 ((EX47.ext Et51).keep K55) GW55 GH55 ((GW47.ext Et51).keep K55 (ninS ne_b43_b51 nin0)) ((GH47.ext Et51).keep K55 (ninS ne_b43_b51 nin0)) ((own_res2 _ _ _ _).trans hj59_0.symm)) hZ (hw _ (List.mem_of_getElem? (i := 26) rfl)) (hw _ (List.mem_of_getElem? (i := 11) rfl)) (by decide) (by decide)) q77a q77c (g := (mkF m 139 #[.val (.int p1), .val (.int p2), .val (.int p3), .val (.int p4), .val (.int p5), .val (.int w1), .val (.int h1), .val (.int w2), .val (.int h2), .val (.ref b43), .val (.ref b51), .val (.int ex1), .val (.int (((p5.toUInt32 >>> ((3 : Int32) &&& 31).toUInt32).toInt32) &&& (3 : Int32))), .unset] [(.ref b43), (.ref b51)])) rfl (by rw [hml]; rfl) (Steps.refl _) (argsL := [(.ref b43)]) (rest := []) (lenOf pdL_2 rfl) rfl (by show 2 * 0 + _ ≤ _; exact Nat.le_of_eq rfl) (hb hby at_139) (fun _ _ => ⟨rfl, e72, (by decide : 2 + 0 ≤ _), (by decide : 4 + 0 ≤ _)⟩)
    dsimp only [Pt.U, Pt.locs, Pt.cells, Pt.slots] at X77 l77 y77 z77 st77 hQ77
    subst l77 y77 z77
    obtain ⟨rfl, N77q, hq77⟩ := hQ77
    have N77 := Fr.app N72 N77q
    have pre78 : Go p e below T77 (mkF m 142 #[.val (.int p1), .val (.int p2), .val (.int p3), .val (.int p4), .val (.int p5), .val (.int w1), .val (.int h1), .val (.int w2), .val (.int h2), .val (.ref b43), .val (.ref b51), .val (.int ex1), .val (.int (((p5.toUInt32 >>> ((3 : Int32) &&& 31).toUInt32).toInt32) &&& (3 : Int32))), .unset] [(.int ex1)]) s₁ (entryFrame m #[(.int p1), (.int p2), (.int p3), (.int p4), (.int p5)] maxLocals) := fun t k => pre76 t (st77.trans k)
    have e77 : T77.heap = T55.heap := hq77
    have pre79 : Go p e below T77 (mkF m 144 #[.val (.int p1), .val (.int p2), .val (.int p3), .val (.int p4), .val (.int p5), .val (.int w1), .val (.int h1), .val (.int w2), .val (.int h2), .val (.ref b43), .val (.ref b51), .val (.int ex1), .val (.int (((p5.toUInt32 >>> ((3 : Int32) &&& 31).toUInt32).toInt32) &&& (3 : Int32))), .unset] [(.int ex1), (.int ex1)]) s₁ (entryFrame m #[(.int p1), (.int p2), (.int p3), (.int p4), (.int p5)] maxLocals) := fun t k => pre78 t (by
        show Steps p.tables e below (T77.setTop (mkF m 142 #[.val (.int p1), .val (.int p2), .val (.int p3), .val (.int p4), .val (.int p5), .val (.int w1), .val (.int h1), .val (.int w2), .val (.int h2), .val (.ref b43), .val (.ref b51), .val (.int ex1), .val (.int (((p5.toUInt32 >>> ((3 : Int32) &&& 31).toUInt32).toInt32) &&& (3 : Int32))), .unset] [(.int ex1)])) t
        refine XS.iload X77.here hx rfl (hb hby at_142) rfl ?_
        exact k)
    have pre80 : Go p e below T77 (mkF m 147 #[.val (.int p1), .val (.int p2), .val (.int p3), .val (.int p4), .val (.int p5), .val (.int w1), .val (.int h1), .val (.int w2), .val (.int h2), .val (.ref b43), .val (.ref b51), .val (.int ex1), .val (.int (((p5.toUInt32 >>> ((3 : Int32) &&& 31).toUInt32).toInt32) &&& (3 : Int32))), .unset] []) s₁ (entryFrame m #[(.int p1), (.int p2), (.int p3), (.int p4), (.int p5)] maxLocals) := fun t k => pre79 t (XS.icmpNo X77.here hx rfl (hb hby at_144) rfl (teq (rfl : ex1 = ex1)).2 k)
    have pre81 : Go p e below T77 (mkF m 152 #[.val (.int p1), .val (.int p2), .val (.int p3), .val (.int p4), .val (.int p5), .val (.int w1), .val (.int h1), .val (.int w2), .val (.int h2), .val (.ref b43), .val (.ref b51), .val (.int ex1), .val (.int (((p5.toUInt32 >>> ((3 : Int32) &&& 31).toUInt32).toInt32) &&& (3 : Int32))), .unset] [(.int (1 : Int32))]) s₁ (entryFrame m #[(.int p1), (.int p2), (.int p3), (.int p4), (.int p5)] maxLocals) := fun t k => pre80 t (by
        show Steps p.tables e below (T77.setTop (mkF m 147 #[.val (.int p1), .val (.int p2), .val (.int p3), .val (.int p4), .val (.int p5), .val (.int w1), .val (.int h1), .val (.int w2), .val (.int h2), .val (.ref b43), .val (.ref b51), .val (.int ex1), .val (.int (((p5.toUInt32 >>> ((3 : Int32) &&& 31).toUInt32).toInt32) &&& (3 : Int32))), .unset] [])) t
        refine XS.iconst X77.here hx rfl (hb hby at_147) ?_
        show Steps p.tables e below (T77.setTop (mkF m 148 #[.val (.int p1), .val (.int p2), .val (.int p3), .val (.int p4), .val (.int p5), .val (.int w1), .val (.int h1), .val (.int w2), .val (.int h2), .val (.ref b43), .val (.ref b51), .val (.int ex1), .val (.int (((p5.toUInt32 >>> ((3 : Int32) &&& 31).toUInt32).toInt32) &&& (3 : Int32))), .unset] [(.int (1 : Int32))])) t
        refine XS.goto X77.here hx rfl (pc0 := 148) (pc' := 152) rfl (hb hby at_148) (by decide) (by decide) ?_
        exact k)
    have hnr : Value.int (nar .boolean (1 : Int32)) = (.int (1 : Int32)) := by rfl
    obtain ⟨fs, hr, hrun, hended, hW, hsame⟩ := X77.leave (v := some (.int (1 : Int32))) (fun h => by rw [Bd.returns] at h; cases h)
    refine ⟨_, _, pre81 _ (retN X77 hx (t := .boolean) Bd.returns (by simp) (hb hby at_152) (hnr ▸ hr)), hrun, hended, _, _, rfl, ?_, ⟨_, rfl⟩, hW, hsame.mono (by decide) (by decide)⟩
    show QL Z p1 p2 p3 p4 p5 ca cl h0 n0 _ T77.heap _
    rw [e77]
    exact ⟨rfl, N77⟩
  · have pre82 : Go p e below T59 (mkF m 153 #[.val (.int p1), .val (.int p2), .val (.int p3), .val (.int p4), .val (.int p5), .val (.int w1), .val (.int h1), .val (.int w2), .val (.int h2), .val (.ref b43), .val (.ref b51), .val (.int ex1), .val (.int (((p5.toUInt32 >>> ((3 : Int32) &&& 31).toUInt32).toInt32) &&& (3 : Int32))), .unset] []) s₁ (entryFrame m #[(.int p1), (.int p2), (.int p3), (.int p4), (.int p5)] maxLocals) := fun t k => pre69 t (XS.ifYes X59.here hx rfl (pc0 := 120) (pc' := 153) rfl (hb hby at_120) rfl ((if0 _ _).trans (feq hc120).2) (by decide) (by decide) k)
    have pre83 : Go p e below T59 (mkF m 156 #[.val (.int p1), .val (.int p2), .val (.int p3), .val (.int p4), .val (.int p5), .val (.int w1), .val (.int h1), .val (.int w2), .val (.int h2), .val (.ref b43), .val (.ref b51), .val (.int ex1), .val (.int (((p5.toUInt32 >>> ((3 : Int32) &&& 31).toUInt32).toInt32) &&& (3 : Int32))), .unset] [(.int (1 : Int32)), (.int (((p5.toUInt32 >>> ((3 : Int32) &&& 31).toUInt32).toInt32) &&& (3 : Int32)))]) s₁ (entryFrame m #[(.int p1), (.int p2), (.int p3), (.int p4), (.int p5)] maxLocals) := fun t k => pre82 t (by
        show Steps p.tables e below (T59.setTop (mkF m 153 #[.val (.int p1), .val (.int p2), .val (.int p3), .val (.int p4), .val (.int p5), .val (.int w1), .val (.int h1), .val (.int w2), .val (.int h2), .val (.ref b43), .val (.ref b51), .val (.int ex1), .val (.int (((p5.toUInt32 >>> ((3 : Int32) &&& 31).toUInt32).toInt32) &&& (3 : Int32))), .unset] [])) t
        refine XS.iload X59.here hx rfl (hb hby at_153) rfl ?_
        show Steps p.tables e below (T59.setTop (mkF m 155 #[.val (.int p1), .val (.int p2), .val (.int p3), .val (.int p4), .val (.int p5), .val (.int w1), .val (.int h1), .val (.int w2), .val (.int h2), .val (.ref b43), .val (.ref b51), .val (.int ex1), .val (.int (((p5.toUInt32 >>> ((3 : Int32) &&& 31).toUInt32).toInt32) &&& (3 : Int32))), .unset] [(.int (((p5.toUInt32 >>> ((3 : Int32) &&& 31).toUInt32).toInt32) &&& (3 : Int32)))])) t
        refine XS.iconst X59.here hx rfl (hb hby at_155) ?_
        exact k)
    by_cases hc156 : (((p5.toUInt32 >>> ((3 : Int32) &&& 31).toUInt32).toInt32) &&& (3 : Int32)) = (1 : Int32)
    · have pre84 : Go p e below T59 (mkF m 159 #[.val (.int p1), .val (.int p2), .val (.int p3), .val (.int p4), .val (.int p5), .val (.int w1), .val (.int h1), .val (.int w2), .val (.int h2), .val (.ref b43), .val (.ref b51), .val (.int ex1), .val (.int (((p5.toUInt32 >>> ((3 : Int32) &&& 31).toUInt32).toInt32) &&& (3 : Int32))), .unset] []) s₁ (entryFrame m #[(.int p1), (.int p2), (.int p3), (.int p4), (.int p5)] maxLocals) := fun t k => pre83 t (XS.icmpNo X59.here hx rfl (hb hby at_156) rfl (teq hc156).2 k)
      have pre85 : Go p e below T59 (mkF m 162 #[.val (.int p1), .val (.int p2), .val (.int p3), .val (.int p4), .val (.int p5), .val (.int w1), .val (.int h1), .val (.int w2), .val (.int h2), .val (.ref b43), .val (.ref b51), .val (.int ex1), .val (.int (((p5.toUInt32 >>> ((3 : Int32) &&& 31).toUInt32).toInt32) &&& (3 : Int32))), .unset] [.null, (.ref b43)]) s₁ (entryFrame m #[(.int p1), (.int p2), (.int p3), (.int p4), (.int p5)] maxLocals) := fun t k => pre84 t (by
          show Steps p.tables e below (T59.setTop (mkF m 159 #[.val (.int p1), .val (.int p2), .val (.int p3), .val (.int p4), .val (.int p5), .val (.int w1), .val (.int h1), .val (.int w2), .val (.int h2), .val (.ref b43), .val (.ref b51), .val (.int ex1), .val (.int (((p5.toUInt32 >>> ((3 : Int32) &&& 31).toUInt32).toInt32) &&& (3 : Int32))), .unset] [])) t
          refine XS.aload X59.here hx rfl (hb hby at_159) rfl rfl ?_
          show Steps p.tables e below (T59.setTop (mkF m 161 #[.val (.int p1), .val (.int p2), .val (.int p3), .val (.int p4), .val (.int p5), .val (.int w1), .val (.int h1), .val (.int w2), .val (.int h2), .val (.ref b43), .val (.ref b51), .val (.int ex1), .val (.int (((p5.toUInt32 >>> ((3 : Int32) &&& 31).toUInt32).toInt32) &&& (3 : Int32))), .unset] [(.ref b43)])) t
          refine XS.aconstNull X59.here hx rfl (hb hby at_161) ?_
          exact k)
      obtain ⟨cq86, kq86, q86a, q86b, q86c⟩ := isOf hZ e59 ((EX47.ext Et51).keep K55)
      obtain ⟨_, _, ⟨T86, L86, k86, n86⟩, -, X86, ⟨Lc86, hQ86, l86, y86, z86⟩, st86⟩ := X59.virtualBack hx (y := (⟨"com/example/vetter/vetter/profile/Resolution", "equals", "(Ljava/lang/Object;)Z"⟩ : MethodName)) (z := (⟨"com/example/vetter/vetter/profile/Resolution", "equals", "(Ljava/lang/Object;)Z"⟩ : MethodName)) hown (mvT hZ (hw _ (List.mem_of_getElem? (i := 22) rfl))) (mvT hZ (hw _ (List.mem_of_getElem? (i := 23) rfl))) (notFace_of_selects (args := #[]) (mvT hZ (hw _ (List.mem_of_getElem? (i := 25) rfl)))) (mvT hZ (hw _ (List.mem_of_getElem? (i := 25) rfl))) (mvT hZ (hw _ (List.mem_of_getElem? (i := 24) rfl))) (by decide) (backOf (W := 0) (rmN l Z a0 hw [] b43 T55.heap n0 Z57) hZ (hw _ (List.mem_of_getElem? (i := 26) rfl)) (hw _ (List.mem_of_getElem? (i := 11) rfl)) (by decide) (by decide)) q86a q86c (g := (mkF m 162 #[.val (.int p1), .val (.int p2), .val (.int p3), .val (.int p4), .val (.int p5), .val (.int w1), .val (.int h1), .val (.int w2), .val (.int h2), .val (.ref b43), .val (.ref b51), .val (.int ex1), .val (.int (((p5.toUInt32 >>> ((3 : Int32) &&& 31).toUInt32).toInt32) &&& (3 : Int32))), .unset] [.null, (.ref b43)])) rfl (by rw [hml]; rfl) (Steps.refl _) (argsL := [.null]) (rest := []) (lenOf pdL_2 rfl) rfl (by show 2 * 0 + _ ≤ _; exact Nat.le_of_eq rfl) (hb hby at_162) (fun _ _ => ⟨rfl, e59, (by decide : 2 + 0 ≤ _), (by decide : 4 + 0 ≤ _)⟩)
      dsimp only [Pt.U, Pt.locs, Pt.cells, Pt.slots] at X86 l86 y86 z86 st86 hQ86
      subst l86 y86 z86
      obtain ⟨rfl, N86q, hq86⟩ := hQ86
      have N86 := Fr.app N59 N86q
      have pre87 : Go p e below T86 (mkF m 165 #[.val (.int p1), .val (.int p2), .val (.int p3), .val (.int p4), .val (.int p5), .val (.int w1), .val (.int h1), .val (.int w2), .val (.int h2), .val (.ref b43), .val (.ref b51), .val (.int ex1), .val (.int (((p5.toUInt32 >>> ((3 : Int32) &&& 31).toUInt32).toInt32) &&& (3 : Int32))), .unset] [(.int (0 : Int32))]) s₁ (entryFrame m #[(.int p1), (.int p2), (.int p3), (.int p4), (.int p5)] maxLocals) := fun t k => pre85 t (st86.trans k)
      have e86 : T86.heap = T55.heap := hq86
      have pre88 : Go p e below T86 (mkF m 168 #[.val (.int p1), .val (.int p2), .val (.int p3), .val (.int p4), .val (.int p5), .val (.int w1), .val (.int h1), .val (.int w2), .val (.int h2), .val (.ref b43), .val (.ref b51), .val (.int ex1), .val (.int (((p5.toUInt32 >>> ((3 : Int32) &&& 31).toUInt32).toInt32) &&& (3 : Int32))), .unset] []) s₁ (entryFrame m #[(.int p1), (.int p2), (.int p3), (.int p4), (.int p5)] maxLocals) := fun t k => pre87 t (XS.ifNo X86.here hx rfl (hb hby at_165) rfl ((if0 _ _).trans (teq (by decide : (0 : Int32) = (0 : Int32))).2) k)
      have pre89 : Go p e below T86 (mkF m 173 #[.val (.int p1), .val (.int p2), .val (.int p3), .val (.int p4), .val (.int p5), .val (.int w1), .val (.int h1), .val (.int w2), .val (.int h2), .val (.ref b43), .val (.ref b51), .val (.int ex1), .val (.int (((p5.toUInt32 >>> ((3 : Int32) &&& 31).toUInt32).toInt32) &&& (3 : Int32))), .unset] [(.int (1 : Int32))]) s₁ (entryFrame m #[(.int p1), (.int p2), (.int p3), (.int p4), (.int p5)] maxLocals) := fun t k => pre88 t (by
          show Steps p.tables e below (T86.setTop (mkF m 168 #[.val (.int p1), .val (.int p2), .val (.int p3), .val (.int p4), .val (.int p5), .val (.int w1), .val (.int h1), .val (.int w2), .val (.int h2), .val (.ref b43), .val (.ref b51), .val (.int ex1), .val (.int (((p5.toUInt32 >>> ((3 : Int32) &&& 31).toUInt32).toInt32) &&& (3 : Int32))), .unset] [])) t
          refine XS.iconst X86.here hx rfl (hb hby at_168) ?_
          show Steps p.tables e below (T86.setTop (mkF m 169 #[.val (.int p1), .val (.int p2), .val (.int p3), .val (.int p4), .val (.int p5), .val (.int w1), .val (.int h1), .val (.int w2), .val (.int h2), .val (.ref b43), .val (.ref b51), .val (.int ex1), .val (.int (((p5.toUInt32 >>> ((3 : Int32) &&& 31).toUInt32).toInt32) &&& (3 : Int32))), .unset] [(.int (1 : Int32))])) t
          refine XS.goto X86.here hx rfl (pc0 := 169) (pc' := 173) rfl (hb hby at_169) (by decide) (by decide) ?_
          exact k)
      have hnr : Value.int (nar .boolean (1 : Int32)) = (.int (1 : Int32)) := by rfl
      obtain ⟨fs, hr, hrun, hended, hW, hsame⟩ := X86.leave (v := some (.int (1 : Int32))) (fun h => by rw [Bd.returns] at h; cases h)
      refine ⟨_, _, pre89 _ (retN X86 hx (t := .boolean) Bd.returns (by simp) (hb hby at_173) (hnr ▸ hr)), hrun, hended, _, _, rfl, ?_, ⟨_, rfl⟩, hW, hsame.mono (by decide) (by decide)⟩
      show QL Z p1 p2 p3 p4 p5 ca cl h0 n0 _ T86.heap _
      rw [e86]
      exact ⟨rfl, N86⟩
    · have pre90 : Go p e below T59 (mkF m 174 #[.val (.int p1), .val (.int p2), .val (.int p3), .val (.int p4), .val (.int p5), .val (.int w1), .val (.int h1), .val (.int w2), .val (.int h2), .val (.ref b43), .val (.ref b51), .val (.int ex1), .val (.int (((p5.toUInt32 >>> ((3 : Int32) &&& 31).toUInt32).toInt32) &&& (3 : Int32))), .unset] []) s₁ (entryFrame m #[(.int p1), (.int p2), (.int p3), (.int p4), (.int p5)] maxLocals) := fun t k => pre83 t (XS.icmpYes X59.here hx rfl (pc0 := 156) (pc' := 174) rfl (hb hby at_156) rfl (feq hc156).2 (by decide) (by decide) k)
      have pre91 : Go p e below T59 (mkF m 177 #[.val (.int p1), .val (.int p2), .val (.int p3), .val (.int p4), .val (.int p5), .val (.int w1), .val (.int h1), .val (.int w2), .val (.int h2), .val (.ref b43), .val (.ref b51), .val (.int ex1), .val (.int (((p5.toUInt32 >>> ((3 : Int32) &&& 31).toUInt32).toInt32) &&& (3 : Int32))), .unset] [(.int (2 : Int32)), (.int (((p5.toUInt32 >>> ((3 : Int32) &&& 31).toUInt32).toInt32) &&& (3 : Int32)))]) s₁ (entryFrame m #[(.int p1), (.int p2), (.int p3), (.int p4), (.int p5)] maxLocals) := fun t k => pre90 t (by
          show Steps p.tables e below (T59.setTop (mkF m 174 #[.val (.int p1), .val (.int p2), .val (.int p3), .val (.int p4), .val (.int p5), .val (.int w1), .val (.int h1), .val (.int w2), .val (.int h2), .val (.ref b43), .val (.ref b51), .val (.int ex1), .val (.int (((p5.toUInt32 >>> ((3 : Int32) &&& 31).toUInt32).toInt32) &&& (3 : Int32))), .unset] [])) t
          refine XS.iload X59.here hx rfl (hb hby at_174) rfl ?_
          show Steps p.tables e below (T59.setTop (mkF m 176 #[.val (.int p1), .val (.int p2), .val (.int p3), .val (.int p4), .val (.int p5), .val (.int w1), .val (.int h1), .val (.int w2), .val (.int h2), .val (.ref b43), .val (.ref b51), .val (.int ex1), .val (.int (((p5.toUInt32 >>> ((3 : Int32) &&& 31).toUInt32).toInt32) &&& (3 : Int32))), .unset] [(.int (((p5.toUInt32 >>> ((3 : Int32) &&& 31).toUInt32).toInt32) &&& (3 : Int32)))])) t
          refine XS.iconst X59.here hx rfl (hb hby at_176) ?_
          exact k)
      by_cases hc177 : (((p5.toUInt32 >>> ((3 : Int32) &&& 31).toUInt32).toInt32) &&& (3 : Int32)) = (2 : Int32)
      · have pre92 : Go p e below T59 (mkF m 180 #[.val (.int p1), .val (.int p2), .val (.int p3), .val (.int p4), .val (.int p5), .val (.int w1), .val (.int h1), .val (.int w2), .val (.int h2), .val (.ref b43), .val (.ref b51), .val (.int ex1), .val (.int (((p5.toUInt32 >>> ((3 : Int32) &&& 31).toUInt32).toInt32) &&& (3 : Int32))), .unset] []) s₁ (entryFrame m #[(.int p1), (.int p2), (.int p3), (.int p4), (.int p5)] maxLocals) := fun t k => pre91 t (XS.icmpNo X59.here hx rfl (hb hby at_177) rfl (teq hc177).2 k)
        have pre93 : Go p e below T59 (mkF m 182 #[.val (.int p1), .val (.int p2), .val (.int p3), .val (.int p4), .val (.int p5), .val (.int w1), .val (.int h1), .val (.int w2), .val (.int h2), .val (.ref b43), .val (.ref b51), .val (.int ex1), .val (.int (((p5.toUInt32 >>> ((3 : Int32) &&& 31).toUInt32).toInt32) &&& (3 : Int32))), .unset] [(.int w1)]) s₁ (entryFrame m #[(.int p1), (.int p2), (.int p3), (.int p4), (.int p5)] maxLocals) := fun t k => pre92 t (by
            show Steps p.tables e below (T59.setTop (mkF m 180 #[.val (.int p1), .val (.int p2), .val (.int p3), .val (.int p4), .val (.int p5), .val (.int w1), .val (.int h1), .val (.int w2), .val (.int h2), .val (.ref b43), .val (.ref b51), .val (.int ex1), .val (.int (((p5.toUInt32 >>> ((3 : Int32) &&& 31).toUInt32).toInt32) &&& (3 : Int32))), .unset] [])) t
            refine XS.iload X59.here hx rfl (hb hby at_180) rfl ?_
            exact k)
        obtain ⟨_, _, ⟨T94, L94, k94, n94⟩, -, X94, ⟨Lc94, hQ94, l94, y94, z94⟩, st94⟩ := Jvm.LawKit.callS X59 hx (y := (⟨"java/lang/Integer", "valueOf", "(I)Ljava/lang/Integer;"⟩ : MethodName)) hown (mvT hZ (hw _ (List.mem_of_getElem? (i := 29) rfl))) (mvT hZ (hw _ (List.mem_of_getElem? (i := 30) rfl))) (mvT hZ (hw _ (List.mem_of_getElem? (i := 31) rfl))) (mvT hZ (hw _ (List.mem_of_getElem? (i := 32) rfl))) (by decide) (backOf (W := 0) (rmVO l Z a0 hw [] w1 ca cl T55.heap n0 Z57 O57 S0 S1 Ar Sz hel pw1) hZ (hw _ (List.mem_of_getElem? (i := 32) rfl)) (hw _ (List.mem_of_getElem? (i := 31) rfl)) (by decide) (by decide)) (g := (mkF m 182 #[.val (.int p1), .val (.int p2), .val (.int p3), .val (.int p4), .val (.int p5), .val (.int w1), .val (.int h1), .val (.int w2), .val (.int h2), .val (.ref b43), .val (.ref b51), .val (.int ex1), .val (.int (((p5.toUInt32 >>> ((3 : Int32) &&& 31).toUInt32).toInt32) &&& (3 : Int32))), .unset] [(.int w1)])) rfl (by rw [hml]; rfl) (argsL := [(.int w1)]) (rest := []) (lenOf pdL_3 rfl) rfl (by show 2 * 0 + _ ≤ _; exact Nat.le_of_eq rfl) (hb hby at_182) (fun _ _ => ⟨rfl, e59, (by decide : 2 + 1 ≤ _), (by decide : 4 + 1 ≤ _)⟩)
        dsimp only [Pt.U, Pt.locs, Pt.cells, Pt.slots] at X94 l94 y94 z94 st94 hQ94
        subst l94 y94 z94
        obtain ⟨bI, rfl, N94q, K94, EI⟩ := hQ94
        have N94 := Fr.app N59 N94q
        have pre95 : Go p e below T94 (mkF m 185 #[.val (.int p1), .val (.int p2), .val (.int p3), .val (.int p4), .val (.int p5), .val (.int w1), .val (.int h1), .val (.int w2), .val (.int h2), .val (.ref b43), .val (.ref b51), .val (.int ex1), .val (.int (((p5.toUInt32 >>> ((3 : Int32) &&& 31).toUInt32).toInt32) &&& (3 : Int32))), .unset] [(.ref bI)]) s₁ (entryFrame m #[(.int p1), (.int p2), (.int p3), (.int p4), (.int p5)] maxLocals) := fun t k => pre93 t (st94 t k)
        have O96 : Old Z n0 T94.heap := O57.keep K94 all0
        have Z96 : n0 ≤ T94.heap.size := Nat.le_trans Z57 K94.1
        have pre97 : Go p e below T94 (mkF m 191 #[.val (.int p1), .val (.int p2), .val (.int p3), .val (.int p4), .val (.int p5), .val (.int w1), .val (.int h1), .val (.int w2), .val (.int h2), .val (.ref b43), .val (.ref b51), .val (.int ex1), .val (.int (((p5.toUInt32 >>> ((3 : Int32) &&& 31).toUInt32).toInt32) &&& (3 : Int32))), .val (.ref bI)] [(.ref bI), (.ref b43)]) s₁ (entryFrame m #[(.int p1), (.int p2), (.int p3), (.int p4), (.int p5)] maxLocals) := fun t k => pre95 t (by
            show Steps p.tables e below (T94.setTop (mkF m 185 #[.val (.int p1), .val (.int p2), .val (.int p3), .val (.int p4), .val (.int p5), .val (.int w1), .val (.int h1), .val (.int w2), .val (.int h2), .val (.ref b43), .val (.ref b51), .val (.int ex1), .val (.int (((p5.toUInt32 >>> ((3 : Int32) &&& 31).toUInt32).toInt32) &&& (3 : Int32))), .unset] [(.ref bI)])) t
            refine XS.astore X94.here hx rfl (hb hby at_185) rfl rfl (l' := #[.val (.int p1), .val (.int p2), .val (.int p3), .val (.int p4), .val (.int p5), .val (.int w1), .val (.int h1), .val (.int w2), .val (.int h2), .val (.ref b43), .val (.ref b51), .val (.int ex1), .val (.int (((p5.toUInt32 >>> ((3 : Int32) &&& 31).toUInt32).toInt32) &&& (3 : Int32))), .val (.ref bI)]) rfl ?_
            show Steps p.tables e below (T94.setTop (mkF m 187 #[.val (.int p1), .val (.int p2), .val (.int p3), .val (.int p4), .val (.int p5), .val (.int w1), .val (.int h1), .val (.int w2), .val (.int h2), .val (.ref b43), .val (.ref b51), .val (.int ex1), .val (.int (((p5.toUInt32 >>> ((3 : Int32) &&& 31).toUInt32).toInt32) &&& (3 : Int32))), .val (.ref bI)] [])) t
            refine XS.aload X94.here hx rfl (hb hby at_187) rfl rfl ?_
            show Steps p.tables e below (T94.setTop (mkF m 189 #[.val (.int p1), .val (.int p2), .val (.int p3), .val (.int p4), .val (.int p5), .val (.int w1), .val (.int h1), .val (.int w2), .val (.int h2), .val (.ref b43), .val (.ref b51), .val (.int ex1), .val (.int (((p5.toUInt32 >>> ((3 : Int32) &&& 31).toUInt32).toInt32) &&& (3 : Int32))), .val (.ref bI)] [(.ref b43)])) t
            refine XS.aload X94.here hx rfl (hb hby at_189) rfl rfl ?_
            exact k)
        obtain ⟨cq98, kq98, q98a, q98b, q98c⟩ := isOf hZ rfl (((EX47.ext Et51).keep K55).keep K94)
        obtain ⟨_, _, ⟨T98, L98, k98, n98⟩, -, X98, ⟨Lc98, hQ98, l98, y98, z98⟩, st98⟩ := X94.virtualBack hx (y := (⟨"com/example/vetter/vetter/profile/Resolution", "equals", "(Ljava/lang/Object;)Z"⟩ : MethodName)) (z := (⟨"com/example/vetter/vetter/profile/Resolution", "equals", "(Ljava/lang/Object;)Z"⟩ : MethodName)) hown (mvT hZ (hw _ (List.mem_of_getElem? (i := 22) rfl))) (mvT hZ (hw _ (List.mem_of_getElem? (i := 23) rfl))) (notFace_of_selects (args := #[]) (mvT hZ (hw _ (List.mem_of_getElem? (i := 25) rfl)))) (mvT hZ (hw _ (List.mem_of_getElem? (i := 25) rfl))) (mvT hZ (hw _ (List.mem_of_getElem? (i := 24) rfl))) (by decide) (backOf (W := 0) (rmI l Z a0 hw [] b43 bI T94.heap n0 Z96 EI) hZ (hw _ (List.mem_of_getElem? (i := 26) rfl)) (hw _ (List.mem_of_getElem? (i := 11) rfl)) (by decide) (by decide)) q98a q98c (g := (mkF m 191 #[.val (.int p1), .val (.int p2), .val (.int p3), .val (.int p4), .val (.int p5), .val (.int w1), .val (.int h1), .val (.int w2), .val (.int h2), .val (.ref b43), .val (.ref b51), .val (.int ex1), .val (.int (((p5.toUInt32 >>> ((3 : Int32) &&& 31).toUInt32).toInt32) &&& (3 : Int32))), .val (.ref bI)] [(.ref bI), (.ref b43)])) rfl (by rw [hml]; rfl) (Steps.refl _) (argsL := [(.ref bI)]) (rest := []) (lenOf pdL_2 rfl) rfl (by show 2 * 0 + _ ≤ _; exact Nat.le_of_eq rfl) (hb hby at_191) (fun _ _ => ⟨rfl, rfl, (by decide : 3 + 0 ≤ _), (by decide : 5 + 0 ≤ _)⟩)
        dsimp only [Pt.U, Pt.locs, Pt.cells, Pt.slots] at X98 l98 y98 z98 st98 hQ98
        subst l98 y98 z98
        obtain ⟨rfl, N98q, hq98⟩ := hQ98
        have N98 := Fr.app N94 N98q
        have pre99 : Go p e below T98 (mkF m 194 #[.val (.int p1), .val (.int p2), .val (.int p3), .val (.int p4), .val (.int p5), .val (.int w1), .val (.int h1), .val (.int w2), .val (.int h2), .val (.ref b43), .val (.ref b51), .val (.int ex1), .val (.int (((p5.toUInt32 >>> ((3 : Int32) &&& 31).toUInt32).toInt32) &&& (3 : Int32))), .val (.ref bI)] [(.int (0 : Int32))]) s₁ (entryFrame m #[(.int p1), (.int p2), (.int p3), (.int p4), (.int p5)] maxLocals) := fun t k => pre97 t (st98.trans k)
        have e98 : T98.heap = T94.heap := hq98
        have pre100 : Go p e below T98 (mkF m 197 #[.val (.int p1), .val (.int p2), .val (.int p3), .val (.int p4), .val (.int p5), .val (.int w1), .val (.int h1), .val (.int w2), .val (.int h2), .val (.ref b43), .val (.ref b51), .val (.int ex1), .val (.int (((p5.toUInt32 >>> ((3 : Int32) &&& 31).toUInt32).toInt32) &&& (3 : Int32))), .val (.ref bI)] []) s₁ (entryFrame m #[(.int p1), (.int p2), (.int p3), (.int p4), (.int p5)] maxLocals) := fun t k => pre99 t (XS.ifNo X98.here hx rfl (hb hby at_194) rfl ((if0 _ _).trans (teq (by decide : (0 : Int32) = (0 : Int32))).2) k)
        have pre101 : Go p e below T98 (mkF m 202 #[.val (.int p1), .val (.int p2), .val (.int p3), .val (.int p4), .val (.int p5), .val (.int w1), .val (.int h1), .val (.int w2), .val (.int h2), .val (.ref b43), .val (.ref b51), .val (.int ex1), .val (.int (((p5.toUInt32 >>> ((3 : Int32) &&& 31).toUInt32).toInt32) &&& (3 : Int32))), .val (.ref bI)] [(.int (1 : Int32))]) s₁ (entryFrame m #[(.int p1), (.int p2), (.int p3), (.int p4), (.int p5)] maxLocals) := fun t k => pre100 t (by
            show Steps p.tables e below (T98.setTop (mkF m 197 #[.val (.int p1), .val (.int p2), .val (.int p3), .val (.int p4), .val (.int p5), .val (.int w1), .val (.int h1), .val (.int w2), .val (.int h2), .val (.ref b43), .val (.ref b51), .val (.int ex1), .val (.int (((p5.toUInt32 >>> ((3 : Int32) &&& 31).toUInt32).toInt32) &&& (3 : Int32))), .val (.ref bI)] [])) t
            refine XS.iconst X98.here hx rfl (hb hby at_197) ?_
            show Steps p.tables e below (T98.setTop (mkF m 198 #[.val (.int p1), .val (.int p2), .val (.int p3), .val (.int p4), .val (.int p5), .val (.int w1), .val (.int h1), .val (.int w2), .val (.int h2), .val (.ref b43), .val (.ref b51), .val (.int ex1), .val (.int (((p5.toUInt32 >>> ((3 : Int32) &&& 31).toUInt32).toInt32) &&& (3 : Int32))), .val (.ref bI)] [(.int (1 : Int32))])) t
            refine XS.goto X98.here hx rfl (pc0 := 198) (pc' := 202) rfl (hb hby at_198) (by decide) (by decide) ?_
            exact k)
        have hnr : Value.int (nar .boolean (1 : Int32)) = (.int (1 : Int32)) := by rfl
        obtain ⟨fs, hr, hrun, hended, hW, hsame⟩ := X98.leave (v := some (.int (1 : Int32))) (fun h => by rw [Bd.returns] at h; cases h)
        refine ⟨_, _, pre101 _ (retN X98 hx (t := .boolean) Bd.returns (by simp) (hb hby at_202) (hnr ▸ hr)), hrun, hended, _, _, rfl, ?_, ⟨_, rfl⟩, hW, hsame.mono (by decide) (by decide)⟩
        show QL Z p1 p2 p3 p4 p5 ca cl h0 n0 _ T98.heap _
        rw [e98]
        exact ⟨rfl, N98⟩
      · have pre102 : Go p e below T59 (mkF m 203 #[.val (.int p1), .val (.int p2), .val (.int p3), .val (.int p4), .val (.int p5), .val (.int w1), .val (.int h1), .val (.int w2), .val (.int h2), .val (.ref b43), .val (.ref b51), .val (.int ex1), .val (.int (((p5.toUInt32 >>> ((3 : Int32) &&& 31).toUInt32).toInt32) &&& (3 : Int32))), .unset] []) s₁ (entryFrame m #[(.int p1), (.int p2), (.int p3), (.int p4), (.int p5)] maxLocals) := fun t k => pre91 t (XS.icmpYes X59.here hx rfl (pc0 := 177) (pc' := 203) rfl (hb hby at_177) rfl (feq hc177).2 (by decide) (by decide) k)
        have pre103 : Go p e below T59 (mkF m 207 #[.val (.int p1), .val (.int p2), .val (.int p3), .val (.int p4), .val (.int p5), .val (.int w1), .val (.int h1), .val (.int w2), .val (.int h2), .val (.ref b43), .val (.ref b51), .val (.int ex1), .val (.int (((p5.toUInt32 >>> ((3 : Int32) &&& 31).toUInt32).toInt32) &&& (3 : Int32))), .unset] [(.ref b43), (.ref b43)]) s₁ (entryFrame m #[(.int p1), (.int p2), (.int p3), (.int p4), (.int p5)] maxLocals) := fun t k => pre102 t (by
            show Steps p.tables e below (T59.setTop (mkF m 203 #[.val (.int p1), .val (.int p2), .val (.int p3), .val (.int p4), .val (.int p5), .val (.int w1), .val (.int h1), .val (.int w2), .val (.int h2), .val (.ref b43), .val (.ref b51), .val (.int ex1), .val (.int (((p5.toUInt32 >>> ((3 : Int32) &&& 31).toUInt32).toInt32) &&& (3 : Int32))), .unset] [])) t
            refine XS.aload X59.here hx rfl (hb hby at_203) rfl rfl ?_
            show Steps p.tables e below (T59.setTop (mkF m 205 #[.val (.int p1), .val (.int p2), .val (.int p3), .val (.int p4), .val (.int p5), .val (.int w1), .val (.int h1), .val (.int w2), .val (.int h2), .val (.ref b43), .val (.ref b51), .val (.int ex1), .val (.int (((p5.toUInt32 >>> ((3 : Int32) &&& 31).toUInt32).toInt32) &&& (3 : Int32))), .unset] [(.ref b43)])) t
            refine XS.aload X59.here hx rfl (hb hby at_205) rfl rfl ?_
            exact k)
        obtain ⟨cq104, kq104, q104a, q104b, q104c⟩ := isOf hZ e59 ((EX47.ext Et51).keep K55)
        obtain ⟨_, _, ⟨T104, L104, k104, n104⟩, -, X104, ⟨Lc104, hQ104, l104, y104, z104⟩, st104⟩ := X59.virtualBack hx (y := (⟨"com/example/vetter/vetter/profile/Resolution", "equals", "(Ljava/lang/Object;)Z"⟩ : MethodName)) (z := (⟨"com/example/vetter/vetter/profile/Resolution", "equals", "(Ljava/lang/Object;)Z"⟩ : MethodName)) hown (mvT hZ (hw _ (List.mem_of_getElem? (i := 22) rfl))) (mvT hZ (hw _ (List.mem_of_getElem? (i := 23) rfl))) (notFace_of_selects (args := #[]) (mvT hZ (hw _ (List.mem_of_getElem? (i := 25) rfl)))) (mvT hZ (hw _ (List.mem_of_getElem? (i := 25) rfl))) (mvT hZ (hw _ (List.mem_of_getElem? (i := 24) rfl))) (by decide) (backOf (W := 0) (rmE l Z a0 hw [] b43 b43 w1 h1 w1 h1 (1 : Int32) T55.heap n0 Z57 ((EX47.ext Et51).keep K55) ((GW47.ext Et51).keep K55 (ninS ne_b43_b51 nin0)) ((GH47.ext Et51).keep K55 (ninS ne_b43_b51 nin0)) ((GW47.ext Et51).keep K55 (ninS ne_b43_b51 nin0)) ((GH47.ext Et51).keep K55 (ninS ne_b43_b51 nin0)) (by simp [resF])) hZ (hw _ (List.mem_of_getElem? (i := 26) rfl)) (hw _ (List.mem_of_getElem? (i := 11) rfl)) (by decide) (by decide)) q104a q104c (g := (mkF m 207 #[.val (.int p1), .val (.int p2), .val (.int p3), .val (.int p4), .val (.int p5), .val (.int w1), .val (.int h1), .val (.int w2), .val (.int h2), .val (.ref b43), .val (.ref b51), .val (.int ex1), .val (.int (((p5.toUInt32 >>> ((3 : Int32) &&& 31).toUInt32).toInt32) &&& (3 : Int32))), .unset] [(.ref b43), (.ref b43)])) rfl (by rw [hml]; rfl) (Steps.refl _) (argsL := [(.ref b43)]) (rest := []) (lenOf pdL_2 rfl) rfl (by show 2 * 0 + _ ≤ _; exact Nat.le_of_eq rfl) (hb hby at_207) (fun _ _ => ⟨rfl, e59, (by decide : 2 + 0 ≤ _), (by decide : 4 + 0 ≤ _)⟩)
        dsimp only [Pt.U, Pt.locs, Pt.cells, Pt.slots] at X104 l104 y104 z104 st104 hQ104
        subst l104 y104 z104
        obtain ⟨rfl, N104q, hq104⟩ := hQ104
        have N104 := Fr.app N59 N104q
        have pre105 : Go p e below T104 (mkF m 210 #[.val (.int p1), .val (.int p2), .val (.int p3), .val (.int p4), .val (.int p5), .val (.int w1), .val (.int h1), .val (.int w2), .val (.int h2), .val (.ref b43), .val (.ref b51), .val (.int ex1), .val (.int (((p5.toUInt32 >>> ((3 : Int32) &&& 31).toUInt32).toInt32) &&& (3 : Int32))), .unset] [(.int (1 : Int32))]) s₁ (entryFrame m #[(.int p1), (.int p2), (.int p3), (.int p4), (.int p5)] maxLocals) := fun t k => pre103 t (st104.trans k)
        have e104 : T104.heap = T55.heap := hq104
        have hnr : Value.int (nar .boolean (1 : Int32)) = (.int (1 : Int32)) := by rfl
        obtain ⟨fs, hr, hrun, hended, hW, hsame⟩ := X104.leave (v := some (.int (1 : Int32))) (fun h => by rw [Bd.returns] at h; cases h)
        refine ⟨_, _, pre105 _ (retN X104 hx (t := .boolean) Bd.returns (by simp) (hb hby at_210) (hnr ▸ hr)), hrun, hended, _, _, rfl, ?_, ⟨_, rfl⟩, hW, hsame.mono (by decide) (by decide)⟩
        show QL Z p1 p2 p3 p4 p5 ca cl h0 n0 _ T104.heap _
        rw [e104]
        exact ⟨rfl, N104⟩
theorem own_len {args : Array Value} {s : State} {t : Term} {a : Addr} {cl : Cell} {k : Int32} (ev : t.eval args s none [] s = some (.ref a)) (hal : s.arrayAt? a = some cl) (h : (Jvm.Cond.eq (.length t) (.int k)).value args s none s [] = some true) : cl.slots.size < 2 ^ 31 ∧ cl.slots.size.toInt32 = k := by
  by_cases q : cl.slots.size < 2 ^ 31
  · exact ⟨q, gotT (Cond.eq_ints (len_f ev hal q) (Term.int_eval k)) h⟩
  · exfalso
    simp [Jvm.Cond.value, Term.eval, ev, hal, q] at h
set_option maxRecDepth 65536 in
set_option maxHeartbeats 40000000 in
theorem comes_1 {Post : Tables → Env → Array Value → State → Outcome → State → Prop} (hpost : ∀ tb e args s v u, (limb_1_1.after args s (.returned v) u = true ∧ limb_1_2.after args s (.returned v) u = true ∧ True) → FrameEnd s (.returned v) u (Jvm.fieldLocs frame_1_writes args s ++ Jvm.arrayLocs frame_1_arrays args s ++ Jvm.staticLocs frame_1_statics s) 16 128 → Post tb e args s (.returned v) u) :
    ArmFor flags0 classFile x code maxLocals ret World_1 tables_1 room_1 Calls_1 rest_1 Pre_1 Post := by
  intro l hfl _ _ p e ha hc hk s m args below hf hA hF happ hP
  obtain ⟨hcalls, hrest, hpre⟩ := hP
  obtain ⟨-, -, -, hnamed, -, -, -, hat⟩ := (Spec.applies_iff hf).mp happ
  obtain ⟨hg, hn⟩ := and_e (Cond.before_iff.mp (show (Jvm.Cond.and given_1 narrow_1).before args s = true from hpre))
  obtain ⟨hg0, hgr0⟩ := and_e hg
  obtain ⟨hg1, hgr1⟩ := and_e hgr0
  obtain ⟨hg2, hgr2⟩ := and_e hgr1
  obtain ⟨hg3, hgr3⟩ := and_e hgr2
  obtain ⟨hg4, hg5⟩ := and_e hgr3
  obtain ⟨w0, w1, w2, w3, w4, rfl⟩ : ∃ w0 w1 w2 w3 w4 : Value, args = #[w0, w1, w2, w3, w4] := by
    have hs : args.size = 5 := by simpa [Cond.value, given_1] using hg0
    obtain ⟨L⟩ := args
    match L, hs with
    | [w0, w1, w2, w3, w4], _ => exact ⟨w0, w1, w2, w3, w4, rfl⟩
  have hw := fun d (hd : d ∈ tables_1) => atoms_spec (ws := Jvm.Cond.code x code maxLocals ret :: tables_1) hat d (List.mem_cons_of_mem _ hd)
  have hfit : Fit s := fun {y c} hc i hi => by
    obtain ⟨ha, rfl⟩ := Array.getElem?_eq_some_iff.mp hc
    have q := List.all_eq_true.mp ((Array.all_eq_true_iff_forall_mem.mp hF) _ (Array.getElem_mem ha)) i (List.mem_range.mpr hi)
    simpa [Array.getElem?_eq_getElem hi] using q
  obtain ⟨hsets, hown0⟩ := atoms_of _ (rest_1_c_eq ▸ (show rest_1_c.before _ s = true from hrest))
  have hr0 := Cond.before_iff.mp hown0
  obtain ⟨x0, ei0⟩ := is_v hg1
  obtain rfl : w0 = (.int x0) := Option.some.inj ei0
  obtain ⟨x1, ei1⟩ := is_v hg2
  obtain rfl : w1 = (.int x1) := Option.some.inj ei1
  obtain ⟨x2, ei2⟩ := is_v hg3
  obtain rfl : w2 = (.int x2) := Option.some.inj ei2
  obtain ⟨x3, ei3⟩ := is_v hg4
  obtain rfl : w3 = (.int x3) := Option.some.inj ei3
  obtain ⟨x4, ei4⟩ := is_v hg5
  obtain rfl : w4 = (.int x4) := Option.some.inj ei4
  have q3 := Cond.before_iff.mp (hsets _ (List.mem_of_getElem? (i := 3) rfl))
  have q4 := Cond.before_iff.mp (hsets _ (List.mem_of_getElem? (i := 4) rfl))
  have q6 := Cond.before_iff.mp (hsets _ (List.mem_of_getElem? (i := 6) rfl))
  have q7 := Cond.before_iff.mp (hsets _ (List.mem_of_getElem? (i := 7) rfl))
  obtain ⟨hv, ehv, hvf⟩ := static_fit hfit (hsets _ (List.mem_of_getElem? (i := 0) rfl)) (ty := .int) (by decide)
  obtain ⟨hz, rfl⟩ := fit_I hvf (Or.inl rfl)
  have hh : hz = 127 := gotT (Cond.eq_ints ehv (Term.int_eval 127)) q3
  subst hh
  have S0 : Sta s s.heap "java/lang/Integer$IntegerCache" "high" "I" (.int 127) := Sta.start ehv (Or.inl (hsets _ (List.mem_of_getElem? (i := 1) rfl)))
  obtain ⟨ca, ev⟩ := arr_v q4
  obtain ⟨cl, A⟩ := Arr.start ev q4
  have S1 : Sta s s.heap "java/lang/Integer$IntegerCache" "cache" "[Ljava/lang/Integer;" (.ref ca) := Sta.start ev (Or.inr ⟨(hw _ (List.mem_of_getElem? (i := 34) rfl)), (hsets _ (List.mem_of_getElem? (i := 2) rfl))⟩)
  have hal : s.arrayAt? ca = some cl := Arr.fin (Vm.Alike.refl _) A
  have hsz := own_len ev hal q6
  have Sz : cl.slots.size = (256 : Int32).toNatClampNeg := by
    rw [← hsz.2]; simp only [Int32.toNatClampNeg, len_toInt hsz.1]; rfl
  have hel : ∀ j : Int32, ¬ (j < 0 ∨ cl.slots.size ≤ j.toNatClampNeg) → ∃ b, cl.slots[j.toNatClampNeg]? = some (.ref b) ∧ Exa s s.heap b "java/lang/Integer" := by
    intro j hj
    have q := Cond.all_elim ev hal q7 j.toNatClampNeg (Nat.lt_of_not_le fun y => hj (Or.inr y))
    have q' := (and_e q).1
    obtain ⟨b, eb⟩ := exa_v q'
    have hi := idx_at (args := #[.int x0, .int x1, .int x2, .int x3, .int x4]) (first := s) (o := none) (s := s) (j := j) (fun y => hj (Or.inl y))
    exact ⟨b, ((elem_f (show (Jvm.Term.static "java/lang/Integer$IntegerCache" "cache" "[Ljava/lang/Integer;").eval _ s none [j.toNatClampNeg] s = some (.ref ca) from ev) hi hal (fun y => hj (Or.inl y))).symm.trans eb), exa_at eb q'⟩
  obtain ⟨n, o, h1, h2, h3, _, L, rfl, ⟨rfl, N⟩, hq⟩ := rmL l s _ hw tables_1 x0 x1 x2 x3 x4 ca cl s.heap s.heap.size (Nat.le_refl _) (Old.start s) S0 S1 A Sz hel p e ha hc hk s m _ below hf ((Spec.applies_iff_loose hf).mp happ).1 ⟨rfl, State.Warmed39.refl s, rfl⟩ trivial
  refine ⟨n, _, h1, h2, h3, hpost _ _ _ _ _ _ ⟨Cond.after_iff.mpr rfl, Cond.after_iff.mpr (eq_i res_at (Term.int_eval (1)) rfl), trivial⟩ ⟨hq.1, hq.2.1, (hq.2.2.sift fun y hy => Or.inr (N y hy)).mono (by decide) (by decide)⟩⟩
theorem main_1_1 : Claimed_1_1 := comes_1 fun _ _ _ _ _ _ h hF => ⟨h.1, hF⟩
theorem main_1_2 : Claimed_1_2 := comes_1 fun _ _ _ _ _ _ h hF => ⟨h.2.1, hF⟩
end Jvm.Pilot.@@N@@
namespace Jvm.Pilot.@@N@@
open Jvm Jvm.ClassFile Sem Op Lib Jvm.Free Jvm.Stand Jvm.Pilot.@@N@@.Jvm.D
/-! MADE BY PROGRAM (witnessworld.py) out of the Statement's table words and the real class files: 17 classes; the members and pool entries that the words name. The judged class is class 1, her method 2. -/
namespace start1
open Jvm.ClassFile
def u (s : String) : CpInfo := .utf8 (stringToUtf16 s)
/-- a pool by its gaps: so many unusable entries, then the entry; so many at the end -/
def gap : Nat → List CpInfo → List CpInfo
  | 0, r => r
  | n + 1, r => .unusable :: gap n r
def poolList (es : List (Nat × CpInfo)) (last : Nat) : List CpInfo := es.foldr (fun e r => gap e.1 (e.2 :: r)) (gap last [])
def pool (es : List (Nat × CpInfo)) (last : Nat) : Array CpInfo := ⟨poolList es last⟩
def fileOf (pool : Array CpInfo) (this : Nat) (attrs : Array Attribute := #[]) (ms : Array MethodInfo := #[]) (fl : Nat := 33) (sup : Nat := 0) (ifs : Array Nat := #[]) (fds : Array FieldInfo := #[]) : ClassFile where
  minorVersion := 0
  majorVersion := 65
  constantPool := pool
  accessFlags := fl
  thisClass := this
  superClass := sup
  interfaces := ifs
  fields := fds
  methods := ms
  attributes := attrs
def plain (name : String) (sup : Option ClassId) : Class where
  name := name
  kind := .ordinary
  loader := none
  accessFlags := 33
  super := sup
  interfaces := #[]
  cf := none
  fields := #[]
  methods := #[]
  instanceTypes := #[]
  staticTypes := #[]
  resolved := #[]
  callSites := []
  init := .initialized
  statics := none
  mirror := none

def pool0 : Array CpInfo := pool [(5, u "<init>"), (0, u "()V"), (1, .class_ 10), (1, u "java/lang/Object")] 113

def k0c0 : Code := { maxStack := 0, maxLocals := 1, code := object_method_1_code, exceptionTable := #[], attributes := #[] }
def k0m0 : Method := { name := "<init>", desc := "()V", sig := { parameters := [], returnType := none }, accessFlags := 1, code := some k0c0 }
/-- java/lang/Object -/
def k0 : Class := { plain "java/lang/Object" none with
  accessFlags := 33
  interfaces := #[]
  cf := some (fileOf pool0 8 #[] #[{ accessFlags := 1, nameIndex := 5, descriptorIndex := 6, attributes := #[] }] 33 0 #[] #[])
  fields := #[]
  methods := #[k0m0]
  instanceTypes := #[]
  staticTypes := #[]
  resolved := Array.replicate 124 none
  statics := none }

def pool1 : Array CpInfo := pool [(2, .class_ 4), (1, u "java/lang/Object"), (0, u "<init>"), (0, u "()V"), (0, .integer 2147483647), (0, .methodref 9 10), (0, .class_ 11), (0, .nameAndType 12 13), (0, u "java/lang/Math"), (0, u "max"), (0, u "(II)I"), (0, .methodref 15 16), (0, .class_ 17), (0, .nameAndType 18 19), (0, u "com/example/vetter/vetter/profile/ResolutionEqualsPinLaw"), (0, u "side"), (0, u "(I)I"), (0, .class_ 21), (0, u "com/example/vetter/vetter/profile/Resolution"), (0, .methodref 20 23), (0, .nameAndType 5 24), (0, u "(II)V"), (0, .methodref 20 26), (0, .nameAndType 27 28), (0, u "equals"), (0, u "(Ljava/lang/Object;)Z"), (0, .methodref 30 31), (0, .class_ 32), (0, .nameAndType 33 34), (0, u "java/lang/Integer"), (0, u "valueOf"), (0, u "(I)Ljava/lang/Integer;"), (2, u "law"), (0, u "(IIIII)Z")] 3

def k1m0 : Method := { name := "<init>", desc := "()V", sig := { parameters := [], returnType := none }, accessFlags := 1, code := none }
def k1c1 : Code := { maxStack := 3, maxLocals := 1, code := method_2_code, exceptionTable := #[], attributes := #[] }
def k1m1 : Method := { name := "side", desc := "(I)I", sig := { parameters := [.int], returnType := some .int }, accessFlags := 10, code := some k1c1 }
def k1c2 : Code := { maxStack := 4, maxLocals := 14, code := code, exceptionTable := #[], attributes := #[] }
def k1m2 : Method := { name := "law", desc := "(IIIII)Z", sig := { parameters := [.int, .int, .int, .int, .int], returnType := some .boolean }, accessFlags := 9, code := some k1c2 }
/-- com/example/vetter/vetter/profile/ResolutionEqualsPinLaw -/
def k1 : Class := { plain "com/example/vetter/vetter/profile/ResolutionEqualsPinLaw" (some 0) with
  accessFlags := 49
  interfaces := #[]
  cf := some (fileOf pool1 15 #[] #[{ accessFlags := 1, nameIndex := 5, descriptorIndex := 6, attributes := #[] }, { accessFlags := 10, nameIndex := 18, descriptorIndex := 19, attributes := #[] }, { accessFlags := 9, nameIndex := 37, descriptorIndex := 38, attributes := #[] }] 49 2 #[] #[])
  fields := #[]
  methods := #[k1m0, k1m1, k1m2]
  instanceTypes := #[]
  staticTypes := #[]
  resolved := Array.replicate 42 none
  statics := none }

def pool2 : Array CpInfo := pool [(1, .class_ 2), (0, u "java/lang/Math"), (1, .class_ 6), (1, u "java/lang/Object"), (0, u "<init>"), (0, u "()V"), (89, .class_ 100), (1, u "java/lang/Math$RandomNumberGeneratorHolder"), (71, u "negativeZeroFloatBits"), (0, u "J"), (2, u "negativeZeroDoubleBits"), (21, u "max"), (46, u "$assertionsDisabled"), (0, u "Z"), (88, u "(II)I"), (2, u "twoToTheDoubleScaleDown"), (0, u "D"), (4, u "twoToTheDoubleScaleUp"), (9, u "E"), (3, u "PI"), (2, u "TAU"), (2, u "DEGREES_TO_RADIANS"), (0, u "RADIANS_TO_DEGREES")] 94

def k2m0 : Method := { name := "<init>", desc := "()V", sig := { parameters := [], returnType := none }, accessFlags := 2, code := none }
def k2c1 : Code := { maxStack := 2, maxLocals := 2, code := jdk_29_method_65_code, exceptionTable := #[], attributes := #[] }
def k2m1 : Method := { name := "max", desc := "(II)I", sig := { parameters := [.int, .int], returnType := some .int }, accessFlags := 9, code := some k2c1 }
/-- java/lang/Math -/
def k2 : Class := { plain "java/lang/Math" (some 0) with
  accessFlags := 49
  interfaces := #[]
  cf := some (fileOf pool2 1 #[.nestMembers #[98]] #[{ accessFlags := 2, nameIndex := 7, descriptorIndex := 8, attributes := #[] }, { accessFlags := 9, nameIndex := 198, descriptorIndex := 335, attributes := #[] }] 49 4 #[] #[{ accessFlags := 25, nameIndex := 354, descriptorIndex := 339, attributes := #[] }, { accessFlags := 25, nameIndex := 358, descriptorIndex := 339, attributes := #[] }, { accessFlags := 25, nameIndex := 361, descriptorIndex := 339, attributes := #[] }, { accessFlags := 26, nameIndex := 364, descriptorIndex := 339, attributes := #[] }, { accessFlags := 26, nameIndex := 365, descriptorIndex := 339, attributes := #[] }, { accessFlags := 26, nameIndex := 172, descriptorIndex := 173, attributes := #[] }, { accessFlags := 26, nameIndex := 176, descriptorIndex := 173, attributes := #[] }, { accessFlags := 8, nameIndex := 344, descriptorIndex := 339, attributes := #[] }, { accessFlags := 8, nameIndex := 338, descriptorIndex := 339, attributes := #[] }, { accessFlags := 4120, nameIndex := 245, descriptorIndex := 246, attributes := #[] }])
  fields := #[{ name := "E", type := .double, accessFlags := 25, slot := 0, constantValue := 0 }, { name := "PI", type := .double, accessFlags := 25, slot := 1, constantValue := 0 }, { name := "TAU", type := .double, accessFlags := 25, slot := 2, constantValue := 0 }, { name := "DEGREES_TO_RADIANS", type := .double, accessFlags := 26, slot := 3, constantValue := 0 }, { name := "RADIANS_TO_DEGREES", type := .double, accessFlags := 26, slot := 4, constantValue := 0 }, { name := "negativeZeroFloatBits", type := .long, accessFlags := 26, slot := 5, constantValue := 0 }, { name := "negativeZeroDoubleBits", type := .long, accessFlags := 26, slot := 6, constantValue := 0 }, { name := "twoToTheDoubleScaleUp", type := .double, accessFlags := 8, slot := 7, constantValue := 0 }, { name := "twoToTheDoubleScaleDown", type := .double, accessFlags := 8, slot := 8, constantValue := 0 }, { name := "$assertionsDisabled", type := .boolean, accessFlags := 4120, slot := 9, constantValue := 0 }]
  methods := #[k2m0, k2m1]
  instanceTypes := #[]
  staticTypes := #[.double, .double, .double, .double, .double, .long, .long, .double, .double, .boolean]
  resolved := Array.replicate 460 none
  statics := none }

def pool3 : Array CpInfo := pool [(1, .methodref 2 3), (0, .class_ 4), (0, .nameAndType 5 6), (0, u "java/lang/Object"), (0, u "<init>"), (0, u "()V"), (9, .fieldref 17 18), (0, .class_ 19), (0, .nameAndType 20 21), (0, u "com/example/vetter/vetter/profile/Resolution"), (0, u "width"), (0, u "I"), (0, .fieldref 17 23), (0, .nameAndType 24 21), (0, u "height"), (10, u "(II)V"), (8, u "equals"), (0, u "(Ljava/lang/Object;)Z")] 22

def k3c0 : Code := { maxStack := 4, maxLocals := 3, code := prog_32_method_1_code, exceptionTable := #[], attributes := #[] }
def k3m0 : Method := { name := "<init>", desc := "(II)V", sig := { parameters := [.int, .int], returnType := none }, accessFlags := 1, code := some k3c0 }
def k3c1 : Code := { maxStack := 2, maxLocals := 2, code := prog_32_method_6_code, exceptionTable := #[], attributes := #[] }
def k3m1 : Method := { name := "equals", desc := "(Ljava/lang/Object;)Z", sig := { parameters := [(.object "java/lang/Object")], returnType := some .boolean }, accessFlags := 1, code := some k3c1 }
/-- com/example/vetter/vetter/profile/Resolution -/
def k3 : Class := { plain "com/example/vetter/vetter/profile/Resolution" (some 0) with
  accessFlags := 49
  interfaces := #[]
  cf := some (fileOf pool3 17 #[] #[{ accessFlags := 1, nameIndex := 5, descriptorIndex := 35, attributes := #[] }, { accessFlags := 1, nameIndex := 44, descriptorIndex := 45, attributes := #[] }] 49 2 #[] #[{ accessFlags := 18, nameIndex := 20, descriptorIndex := 21, attributes := #[] }, { accessFlags := 18, nameIndex := 24, descriptorIndex := 21, attributes := #[] }])
  fields := #[{ name := "width", type := .int, accessFlags := 18, slot := 0, constantValue := 0 }, { name := "height", type := .int, accessFlags := 18, slot := 1, constantValue := 0 }]
  methods := #[k3m0, k3m1]
  instanceTypes := #[.int, .int]
  staticTypes := #[]
  resolved := Array.replicate 68 none
  statics := none }

def pool4 : Array CpInfo := pool [(1, .class_ 2), (0, u "java/io/Serializable"), (0, .class_ 4), (0, u "java/lang/Object")] 2

/-- java/io/Serializable -/
def k4 : Class := { plain "java/io/Serializable" (some 0) with
  accessFlags := 1537
  interfaces := #[]
  cf := some (fileOf pool4 1 #[] #[] 1537 3 #[] #[])
  fields := #[]
  methods := #[]
  instanceTypes := #[]
  staticTypes := #[]
  resolved := Array.replicate 7 none
  statics := none }

def pool5 : Array CpInfo := pool [(1, .methodref 2 3), (0, .class_ 4), (0, .nameAndType 5 6), (0, u "java/lang/Object"), (0, u "<init>"), (0, u "()V"), (1, .class_ 10), (1, u "java/lang/Number"), (2, .class_ 14), (0, u "java/io/Serializable"), (0, u "serialVersionUID"), (0, u "J")] 20

def k5c0 : Code := { maxStack := 1, maxLocals := 1, code := jdk_18_method_1_code, exceptionTable := #[], attributes := #[] }
def k5m0 : Method := { name := "<init>", desc := "()V", sig := { parameters := [], returnType := none }, accessFlags := 1, code := some k5c0 }
/-- java/lang/Number -/
def k5 : Class := { plain "java/lang/Number" (some 0) with
  accessFlags := 1057
  interfaces := #[4]
  cf := some (fileOf pool5 8 #[] #[{ accessFlags := 1, nameIndex := 5, descriptorIndex := 6, attributes := #[] }] 1057 2 #[13] #[{ accessFlags := 26, nameIndex := 15, descriptorIndex := 16, attributes := #[] }])
  fields := #[{ name := "serialVersionUID", type := .long, accessFlags := 26, slot := 0, constantValue := 0 }]
  methods := #[k5m0]
  instanceTypes := #[]
  staticTypes := #[.long]
  resolved := Array.replicate 37 none
  statics := none }

def pool6 : Array CpInfo := pool [(1, .class_ 2), (0, u "java/lang/Comparable"), (0, .class_ 4), (0, u "java/lang/Object")] 7

/-- java/lang/Comparable -/
def k6 : Class := { plain "java/lang/Comparable" (some 0) with
  accessFlags := 1537
  interfaces := #[]
  cf := some (fileOf pool6 1 #[] #[] 1537 3 #[] #[])
  fields := #[]
  methods := #[]
  instanceTypes := #[]
  staticTypes := #[]
  resolved := Array.replicate 12 none
  statics := none }

def pool7 : Array CpInfo := pool [(1, .class_ 2), (0, u "java/lang/constant/Constable"), (0, .class_ 4), (0, u "java/lang/Object")] 6

/-- java/lang/constant/Constable -/
def k7 : Class := { plain "java/lang/constant/Constable" (some 0) with
  accessFlags := 1537
  interfaces := #[]
  cf := some (fileOf pool7 1 #[] #[] 1537 3 #[] #[])
  fields := #[]
  methods := #[]
  instanceTypes := #[]
  staticTypes := #[]
  resolved := Array.replicate 11 none
  statics := none }

def pool8 : Array CpInfo := pool [(1, .class_ 2), (0, u "java/lang/constant/ConstantDesc"), (0, .class_ 4), (0, u "java/lang/Object")] 32

/-- java/lang/constant/ConstantDesc -/
def k8 : Class := { plain "java/lang/constant/ConstantDesc" (some 0) with
  accessFlags := 1537
  interfaces := #[]
  cf := some (fileOf pool8 1 #[] #[] 1537 3 #[] #[])
  fields := #[]
  methods := #[]
  instanceTypes := #[]
  staticTypes := #[]
  resolved := Array.replicate 37 none
  statics := none }

def pool9 : Array CpInfo := pool [(1, .class_ 2), (0, u "java/lang/Integer"), (16, u "digits"), (0, u "[C"), (46, u "<init>"), (17, u "DigitOnes"), (0, u "[B"), (2, u "DigitTens"), (10, .nameAndType 67 101), (0, u "()V"), (85, u "valueOf"), (0, u "(I)Ljava/lang/Integer;"), (0, .class_ 190), (0, u "java/lang/Integer$IntegerCache"), (0, .fieldref 189 192), (0, .nameAndType 193 194), (0, u "high"), (0, u "I"), (0, .fieldref 189 196), (0, .nameAndType 197 198), (0, u "cache"), (0, u "[Ljava/lang/Integer;"), (0, .methodref 1 200), (0, .nameAndType 67 201), (0, u "(I)V"), (0, .methodref 203 100), (0, .class_ 204), (0, u "java/lang/Number"), (0, .fieldref 1 206), (0, .nameAndType 207 194), (0, u "value"), (94, u "TYPE"), (0, u "Ljava/lang/Class;"), (0, .class_ 305), (0, u "java/lang/Comparable"), (0, .class_ 307), (0, u "java/lang/constant/Constable"), (0, .class_ 309), (0, u "java/lang/constant/ConstantDesc"), (0, u "MIN_VALUE"), (1, u "MAX_VALUE"), (3, u "SIZE"), (1, u "BYTES"), (1, u "serialVersionUID"), (0, u "J")] 131

def k9c0 : Code := { maxStack := 3, maxLocals := 1, code := jdk_33_method_22_code, exceptionTable := #[], attributes := #[] }
def k9m0 : Method := { name := "valueOf", desc := "(I)Ljava/lang/Integer;", sig := { parameters := [.int], returnType := some (.object "java/lang/Integer") }, accessFlags := 9, code := some k9c0 }
def k9c1 : Code := { maxStack := 2, maxLocals := 2, code := jdk_33_method_23_code, exceptionTable := #[], attributes := #[] }
def k9m1 : Method := { name := "<init>", desc := "(I)V", sig := { parameters := [.int], returnType := none }, accessFlags := 1, code := some k9c1 }
/-- java/lang/Integer -/
def k9 : Class := { plain "java/lang/Integer" (some 5) with
  accessFlags := 49
  interfaces := #[6, 7, 8]
  cf := some (fileOf pool9 1 #[.nestMembers #[189]] #[{ accessFlags := 9, nameIndex := 187, descriptorIndex := 188, attributes := #[] }, { accessFlags := 1, nameIndex := 67, descriptorIndex := 201, attributes := #[] }] 49 203 #[304, 306, 308] #[{ accessFlags := 25, nameIndex := 310, descriptorIndex := 194, attributes := #[] }, { accessFlags := 25, nameIndex := 312, descriptorIndex := 194, attributes := #[] }, { accessFlags := 25, nameIndex := 302, descriptorIndex := 303, attributes := #[] }, { accessFlags := 24, nameIndex := 19, descriptorIndex := 20, attributes := #[] }, { accessFlags := 24, nameIndex := 89, descriptorIndex := 86, attributes := #[] }, { accessFlags := 24, nameIndex := 85, descriptorIndex := 86, attributes := #[] }, { accessFlags := 18, nameIndex := 207, descriptorIndex := 194, attributes := #[] }, { accessFlags := 25, nameIndex := 316, descriptorIndex := 194, attributes := #[] }, { accessFlags := 25, nameIndex := 318, descriptorIndex := 194, attributes := #[] }, { accessFlags := 26, nameIndex := 320, descriptorIndex := 321, attributes := #[] }])
  fields := #[{ name := "MIN_VALUE", type := .int, accessFlags := 25, slot := 0, constantValue := 0 }, { name := "MAX_VALUE", type := .int, accessFlags := 25, slot := 1, constantValue := 0 }, { name := "TYPE", type := (.object "java/lang/Class"), accessFlags := 25, slot := 2, constantValue := 0 }, { name := "digits", type := (.array .char), accessFlags := 24, slot := 3, constantValue := 0 }, { name := "DigitTens", type := (.array .byte), accessFlags := 24, slot := 4, constantValue := 0 }, { name := "DigitOnes", type := (.array .byte), accessFlags := 24, slot := 5, constantValue := 0 }, { name := "value", type := .int, accessFlags := 18, slot := 0, constantValue := 0 }, { name := "SIZE", type := .int, accessFlags := 25, slot := 6, constantValue := 0 }, { name := "BYTES", type := .int, accessFlags := 25, slot := 7, constantValue := 0 }, { name := "serialVersionUID", type := .long, accessFlags := 26, slot := 8, constantValue := 0 }]
  methods := #[k9m0, k9m1]
  instanceTypes := #[.int]
  staticTypes := #[.int, .int, (.object "java/lang/Class"), (.array .char), (.array .byte), (.array .byte), .int, .int, .long]
  resolved := Array.replicate 453 none
  statics := none }

def pool10 : Array CpInfo := pool [(2, .class_ 4), (1, u "java/lang/Object"), (0, u "<init>"), (0, u "()V"), (0, .class_ 8), (0, u "java/lang/Integer"), (7, .class_ 18), (1, u "java/lang/Integer$IntegerCache"), (0, u "$assertionsDisabled"), (0, u "Z"), (26, u "high"), (0, u "I"), (8, u "archivedCache"), (0, u "[Ljava/lang/Integer;"), (12, u "cache"), (0, u "low")] 27

def k10m0 : Method := { name := "<init>", desc := "()V", sig := { parameters := [], returnType := none }, accessFlags := 2, code := none }
/-- java/lang/Integer$IntegerCache -/
def k10 : Class := { plain "java/lang/Integer$IntegerCache" (some 0) with
  accessFlags := 48
  interfaces := #[]
  cf := some (fileOf pool10 16 #[.nestHost 7] #[{ accessFlags := 2, nameIndex := 5, descriptorIndex := 6, attributes := #[] }] 48 2 #[] #[{ accessFlags := 24, nameIndex := 72, descriptorIndex := 48, attributes := #[] }, { accessFlags := 24, nameIndex := 47, descriptorIndex := 48, attributes := #[] }, { accessFlags := 24, nameIndex := 71, descriptorIndex := 58, attributes := #[] }, { accessFlags := 8, nameIndex := 57, descriptorIndex := 58, attributes := #[] }, { accessFlags := 4120, nameIndex := 19, descriptorIndex := 20, attributes := #[] }])
  fields := #[{ name := "low", type := .int, accessFlags := 24, slot := 0, constantValue := 0 }, { name := "high", type := .int, accessFlags := 24, slot := 1, constantValue := 0 }, { name := "cache", type := (.array (.object "java/lang/Integer")), accessFlags := 24, slot := 2, constantValue := 0 }, { name := "archivedCache", type := (.array (.object "java/lang/Integer")), accessFlags := 8, slot := 3, constantValue := 0 }, { name := "$assertionsDisabled", type := .boolean, accessFlags := 4120, slot := 4, constantValue := 0 }]
  methods := #[k10m0]
  instanceTypes := #[]
  staticTypes := #[.int, .int, (.array (.object "java/lang/Integer")), (.array (.object "java/lang/Integer")), .boolean]
  resolved := Array.replicate 100 none
  statics := some 0 }

def pool11 : Array CpInfo := pool [(1, u "java/lang/Cloneable"), (0, .class_ 1), (0, u "java/lang/Object"), (0, .class_ 3)] 3

/-- java/lang/Cloneable -/
def k11 : Class := { plain "java/lang/Cloneable" (some 0) with
  accessFlags := 1537
  interfaces := #[]
  cf := some (fileOf pool11 2 #[] #[] 1537 4 #[] #[])
  fields := #[]
  methods := #[]
  instanceTypes := #[]
  staticTypes := #[]
  resolved := Array.replicate 8 none
  statics := none }

/-- the primitive byte -/
def k12 : Class := { plain "byte" none with kind := .primitive 'B', accessFlags := 0x411 }
/-- [B -/
def k13 : Class := { plain "[B" (some 0) with kind := .array 12 .byte, interfaces := #[11, 4], accessFlags := 1041 }

/-- the primitive int -/
def k14 : Class := { plain "int" none with kind := .primitive 'I', accessFlags := 0x411 }
/-- [I -/
def k15 : Class := { plain "[I" (some 0) with kind := .array 14 .int, interfaces := #[11, 4], accessFlags := 1041 }

/-- [Ljava/lang/Integer; -/
def k16 : Class := { plain "[Ljava/lang/Integer;" (some 0) with kind := .array 9 (.object "java/lang/Integer"), interfaces := #[11, 4], accessFlags := 1041 }

def heap : Heap := #[{ cls := 10, slots := #[.int 0, .int 127, .ref 1, .null, .int 0], vm := .statics 10 },
  { cls := 16, slots := #[.ref 2, .ref 3, .ref 4, .ref 5, .ref 6, .ref 7, .ref 8, .ref 9, .ref 10, .ref 11, .ref 12, .ref 13, .ref 14, .ref 15, .ref 16, .ref 17, .ref 18, .ref 19, .ref 20, .ref 21, .ref 22, .ref 23, .ref 24, .ref 25, .ref 26, .ref 27, .ref 28, .ref 29, .ref 30, .ref 31, .ref 32, .ref 33, .ref 34, .ref 35, .ref 36, .ref 37, .ref 38, .ref 39, .ref 40, .ref 41, .ref 42, .ref 43, .ref 44, .ref 45, .ref 46, .ref 47, .ref 48, .ref 49, .ref 50, .ref 51, .ref 52, .ref 53, .ref 54, .ref 55, .ref 56, .ref 57, .ref 58, .ref 59, .ref 60, .ref 61, .ref 62, .ref 63, .ref 64, .ref 65, .ref 66, .ref 67, .ref 68, .ref 69, .ref 70, .ref 71, .ref 72, .ref 73, .ref 74, .ref 75, .ref 76, .ref 77, .ref 78, .ref 79, .ref 80, .ref 81, .ref 82, .ref 83, .ref 84, .ref 85, .ref 86, .ref 87, .ref 88, .ref 89, .ref 90, .ref 91, .ref 92, .ref 93, .ref 94, .ref 95, .ref 96, .ref 97, .ref 98, .ref 99, .ref 100, .ref 101, .ref 102, .ref 103, .ref 104, .ref 105, .ref 106, .ref 107, .ref 108, .ref 109, .ref 110, .ref 111, .ref 112, .ref 113, .ref 114, .ref 115, .ref 116, .ref 117, .ref 118, .ref 119, .ref 120, .ref 121, .ref 122, .ref 123, .ref 124, .ref 125, .ref 126, .ref 127, .ref 128, .ref 129, .ref 130, .ref 131, .ref 132, .ref 133, .ref 134, .ref 135, .ref 136, .ref 137, .ref 138, .ref 139, .ref 140, .ref 141, .ref 142, .ref 143, .ref 144, .ref 145, .ref 146, .ref 147, .ref 148, .ref 149, .ref 150, .ref 151, .ref 152, .ref 153, .ref 154, .ref 155, .ref 156, .ref 157, .ref 158, .ref 159, .ref 160, .ref 161, .ref 162, .ref 163, .ref 164, .ref 165, .ref 166, .ref 167, .ref 168, .ref 169, .ref 170, .ref 171, .ref 172, .ref 173, .ref 174, .ref 175, .ref 176, .ref 177, .ref 178, .ref 179, .ref 180, .ref 181, .ref 182, .ref 183, .ref 184, .ref 185, .ref 186, .ref 187, .ref 188, .ref 189, .ref 190, .ref 191, .ref 192, .ref 193, .ref 194, .ref 195, .ref 196, .ref 197, .ref 198, .ref 199, .ref 200, .ref 201, .ref 202, .ref 203, .ref 204, .ref 205, .ref 206, .ref 207, .ref 208, .ref 209, .ref 210, .ref 211, .ref 212, .ref 213, .ref 214, .ref 215, .ref 216, .ref 217, .ref 218, .ref 219, .ref 220, .ref 221, .ref 222, .ref 223, .ref 224, .ref 225, .ref 226, .ref 227, .ref 228, .ref 229, .ref 230, .ref 231, .ref 232, .ref 233, .ref 234, .ref 235, .ref 236, .ref 237, .ref 238, .ref 239, .ref 240, .ref 241, .ref 242, .ref 243, .ref 244, .ref 245, .ref 246, .ref 247, .ref 248, .ref 249, .ref 250, .ref 251, .ref 252, .ref 253, .ref 254, .ref 255, .ref 256, .ref 257], vm := .none },
  { cls := 9, slots := #[.int (-128)], vm := .none },
  { cls := 9, slots := #[.int (-127)], vm := .none },
  { cls := 9, slots := #[.int (-126)], vm := .none },
  { cls := 9, slots := #[.int (-125)], vm := .none },
  { cls := 9, slots := #[.int (-124)], vm := .none },
  { cls := 9, slots := #[.int (-123)], vm := .none },
  { cls := 9, slots := #[.int (-122)], vm := .none },
  { cls := 9, slots := #[.int (-121)], vm := .none },
  { cls := 9, slots := #[.int (-120)], vm := .none },
  { cls := 9, slots := #[.int (-119)], vm := .none },
  { cls := 9, slots := #[.int (-118)], vm := .none },
  { cls := 9, slots := #[.int (-117)], vm := .none },
  { cls := 9, slots := #[.int (-116)], vm := .none },
  { cls := 9, slots := #[.int (-115)], vm := .none },
  { cls := 9, slots := #[.int (-114)], vm := .none },
  { cls := 9, slots := #[.int (-113)], vm := .none },
  { cls := 9, slots := #[.int (-112)], vm := .none },
  { cls := 9, slots := #[.int (-111)], vm := .none },
  { cls := 9, slots := #[.int (-110)], vm := .none },
  { cls := 9, slots := #[.int (-109)], vm := .none },
  { cls := 9, slots := #[.int (-108)], vm := .none },
  { cls := 9, slots := #[.int (-107)], vm := .none },
  { cls := 9, slots := #[.int (-106)], vm := .none },
  { cls := 9, slots := #[.int (-105)], vm := .none },
  { cls := 9, slots := #[.int (-104)], vm := .none },
  { cls := 9, slots := #[.int (-103)], vm := .none },
  { cls := 9, slots := #[.int (-102)], vm := .none },
  { cls := 9, slots := #[.int (-101)], vm := .none },
  { cls := 9, slots := #[.int (-100)], vm := .none },
  { cls := 9, slots := #[.int (-99)], vm := .none },
  { cls := 9, slots := #[.int (-98)], vm := .none },
  { cls := 9, slots := #[.int (-97)], vm := .none },
  { cls := 9, slots := #[.int (-96)], vm := .none },
  { cls := 9, slots := #[.int (-95)], vm := .none },
  { cls := 9, slots := #[.int (-94)], vm := .none },
  { cls := 9, slots := #[.int (-93)], vm := .none },
  { cls := 9, slots := #[.int (-92)], vm := .none },
  { cls := 9, slots := #[.int (-91)], vm := .none },
  { cls := 9, slots := #[.int (-90)], vm := .none },
  { cls := 9, slots := #[.int (-89)], vm := .none },
  { cls := 9, slots := #[.int (-88)], vm := .none },
  { cls := 9, slots := #[.int (-87)], vm := .none },
  { cls := 9, slots := #[.int (-86)], vm := .none },
  { cls := 9, slots := #[.int (-85)], vm := .none },
  { cls := 9, slots := #[.int (-84)], vm := .none },
  { cls := 9, slots := #[.int (-83)], vm := .none },
  { cls := 9, slots := #[.int (-82)], vm := .none },
  { cls := 9, slots := #[.int (-81)], vm := .none },
  { cls := 9, slots := #[.int (-80)], vm := .none },
  { cls := 9, slots := #[.int (-79)], vm := .none },
  { cls := 9, slots := #[.int (-78)], vm := .none },
  { cls := 9, slots := #[.int (-77)], vm := .none },
  { cls := 9, slots := #[.int (-76)], vm := .none },
  { cls := 9, slots := #[.int (-75)], vm := .none },
  { cls := 9, slots := #[.int (-74)], vm := .none },
  { cls := 9, slots := #[.int (-73)], vm := .none },
  { cls := 9, slots := #[.int (-72)], vm := .none },
  { cls := 9, slots := #[.int (-71)], vm := .none },
  { cls := 9, slots := #[.int (-70)], vm := .none },
  { cls := 9, slots := #[.int (-69)], vm := .none },
  { cls := 9, slots := #[.int (-68)], vm := .none },
  { cls := 9, slots := #[.int (-67)], vm := .none },
  { cls := 9, slots := #[.int (-66)], vm := .none },
  { cls := 9, slots := #[.int (-65)], vm := .none },
  { cls := 9, slots := #[.int (-64)], vm := .none },
  { cls := 9, slots := #[.int (-63)], vm := .none },
  { cls := 9, slots := #[.int (-62)], vm := .none },
  { cls := 9, slots := #[.int (-61)], vm := .none },
  { cls := 9, slots := #[.int (-60)], vm := .none },
  { cls := 9, slots := #[.int (-59)], vm := .none },
  { cls := 9, slots := #[.int (-58)], vm := .none },
  { cls := 9, slots := #[.int (-57)], vm := .none },
  { cls := 9, slots := #[.int (-56)], vm := .none },
  { cls := 9, slots := #[.int (-55)], vm := .none },
  { cls := 9, slots := #[.int (-54)], vm := .none },
  { cls := 9, slots := #[.int (-53)], vm := .none },
  { cls := 9, slots := #[.int (-52)], vm := .none },
  { cls := 9, slots := #[.int (-51)], vm := .none },
  { cls := 9, slots := #[.int (-50)], vm := .none },
  { cls := 9, slots := #[.int (-49)], vm := .none },
  { cls := 9, slots := #[.int (-48)], vm := .none },
  { cls := 9, slots := #[.int (-47)], vm := .none },
  { cls := 9, slots := #[.int (-46)], vm := .none },
  { cls := 9, slots := #[.int (-45)], vm := .none },
  { cls := 9, slots := #[.int (-44)], vm := .none },
  { cls := 9, slots := #[.int (-43)], vm := .none },
  { cls := 9, slots := #[.int (-42)], vm := .none },
  { cls := 9, slots := #[.int (-41)], vm := .none },
  { cls := 9, slots := #[.int (-40)], vm := .none },
  { cls := 9, slots := #[.int (-39)], vm := .none },
  { cls := 9, slots := #[.int (-38)], vm := .none },
  { cls := 9, slots := #[.int (-37)], vm := .none },
  { cls := 9, slots := #[.int (-36)], vm := .none },
  { cls := 9, slots := #[.int (-35)], vm := .none },
  { cls := 9, slots := #[.int (-34)], vm := .none },
  { cls := 9, slots := #[.int (-33)], vm := .none },
  { cls := 9, slots := #[.int (-32)], vm := .none },
  { cls := 9, slots := #[.int (-31)], vm := .none },
  { cls := 9, slots := #[.int (-30)], vm := .none },
  { cls := 9, slots := #[.int (-29)], vm := .none },
  { cls := 9, slots := #[.int (-28)], vm := .none },
  { cls := 9, slots := #[.int (-27)], vm := .none },
  { cls := 9, slots := #[.int (-26)], vm := .none },
  { cls := 9, slots := #[.int (-25)], vm := .none },
  { cls := 9, slots := #[.int (-24)], vm := .none },
  { cls := 9, slots := #[.int (-23)], vm := .none },
  { cls := 9, slots := #[.int (-22)], vm := .none },
  { cls := 9, slots := #[.int (-21)], vm := .none },
  { cls := 9, slots := #[.int (-20)], vm := .none },
  { cls := 9, slots := #[.int (-19)], vm := .none },
  { cls := 9, slots := #[.int (-18)], vm := .none },
  { cls := 9, slots := #[.int (-17)], vm := .none },
  { cls := 9, slots := #[.int (-16)], vm := .none },
  { cls := 9, slots := #[.int (-15)], vm := .none },
  { cls := 9, slots := #[.int (-14)], vm := .none },
  { cls := 9, slots := #[.int (-13)], vm := .none },
  { cls := 9, slots := #[.int (-12)], vm := .none },
  { cls := 9, slots := #[.int (-11)], vm := .none },
  { cls := 9, slots := #[.int (-10)], vm := .none },
  { cls := 9, slots := #[.int (-9)], vm := .none },
  { cls := 9, slots := #[.int (-8)], vm := .none },
  { cls := 9, slots := #[.int (-7)], vm := .none },
  { cls := 9, slots := #[.int (-6)], vm := .none },
  { cls := 9, slots := #[.int (-5)], vm := .none },
  { cls := 9, slots := #[.int (-4)], vm := .none },
  { cls := 9, slots := #[.int (-3)], vm := .none },
  { cls := 9, slots := #[.int (-2)], vm := .none },
  { cls := 9, slots := #[.int (-1)], vm := .none },
  { cls := 9, slots := #[.int (0)], vm := .none },
  { cls := 9, slots := #[.int (1)], vm := .none },
  { cls := 9, slots := #[.int (2)], vm := .none },
  { cls := 9, slots := #[.int (3)], vm := .none },
  { cls := 9, slots := #[.int (4)], vm := .none },
  { cls := 9, slots := #[.int (5)], vm := .none },
  { cls := 9, slots := #[.int (6)], vm := .none },
  { cls := 9, slots := #[.int (7)], vm := .none },
  { cls := 9, slots := #[.int (8)], vm := .none },
  { cls := 9, slots := #[.int (9)], vm := .none },
  { cls := 9, slots := #[.int (10)], vm := .none },
  { cls := 9, slots := #[.int (11)], vm := .none },
  { cls := 9, slots := #[.int (12)], vm := .none },
  { cls := 9, slots := #[.int (13)], vm := .none },
  { cls := 9, slots := #[.int (14)], vm := .none },
  { cls := 9, slots := #[.int (15)], vm := .none },
  { cls := 9, slots := #[.int (16)], vm := .none },
  { cls := 9, slots := #[.int (17)], vm := .none },
  { cls := 9, slots := #[.int (18)], vm := .none },
  { cls := 9, slots := #[.int (19)], vm := .none },
  { cls := 9, slots := #[.int (20)], vm := .none },
  { cls := 9, slots := #[.int (21)], vm := .none },
  { cls := 9, slots := #[.int (22)], vm := .none },
  { cls := 9, slots := #[.int (23)], vm := .none },
  { cls := 9, slots := #[.int (24)], vm := .none },
  { cls := 9, slots := #[.int (25)], vm := .none },
  { cls := 9, slots := #[.int (26)], vm := .none },
  { cls := 9, slots := #[.int (27)], vm := .none },
  { cls := 9, slots := #[.int (28)], vm := .none },
  { cls := 9, slots := #[.int (29)], vm := .none },
  { cls := 9, slots := #[.int (30)], vm := .none },
  { cls := 9, slots := #[.int (31)], vm := .none },
  { cls := 9, slots := #[.int (32)], vm := .none },
  { cls := 9, slots := #[.int (33)], vm := .none },
  { cls := 9, slots := #[.int (34)], vm := .none },
  { cls := 9, slots := #[.int (35)], vm := .none },
  { cls := 9, slots := #[.int (36)], vm := .none },
  { cls := 9, slots := #[.int (37)], vm := .none },
  { cls := 9, slots := #[.int (38)], vm := .none },
  { cls := 9, slots := #[.int (39)], vm := .none },
  { cls := 9, slots := #[.int (40)], vm := .none },
  { cls := 9, slots := #[.int (41)], vm := .none },
  { cls := 9, slots := #[.int (42)], vm := .none },
  { cls := 9, slots := #[.int (43)], vm := .none },
  { cls := 9, slots := #[.int (44)], vm := .none },
  { cls := 9, slots := #[.int (45)], vm := .none },
  { cls := 9, slots := #[.int (46)], vm := .none },
  { cls := 9, slots := #[.int (47)], vm := .none },
  { cls := 9, slots := #[.int (48)], vm := .none },
  { cls := 9, slots := #[.int (49)], vm := .none },
  { cls := 9, slots := #[.int (50)], vm := .none },
  { cls := 9, slots := #[.int (51)], vm := .none },
  { cls := 9, slots := #[.int (52)], vm := .none },
  { cls := 9, slots := #[.int (53)], vm := .none },
  { cls := 9, slots := #[.int (54)], vm := .none },
  { cls := 9, slots := #[.int (55)], vm := .none },
  { cls := 9, slots := #[.int (56)], vm := .none },
  { cls := 9, slots := #[.int (57)], vm := .none },
  { cls := 9, slots := #[.int (58)], vm := .none },
  { cls := 9, slots := #[.int (59)], vm := .none },
  { cls := 9, slots := #[.int (60)], vm := .none },
  { cls := 9, slots := #[.int (61)], vm := .none },
  { cls := 9, slots := #[.int (62)], vm := .none },
  { cls := 9, slots := #[.int (63)], vm := .none },
  { cls := 9, slots := #[.int (64)], vm := .none },
  { cls := 9, slots := #[.int (65)], vm := .none },
  { cls := 9, slots := #[.int (66)], vm := .none },
  { cls := 9, slots := #[.int (67)], vm := .none },
  { cls := 9, slots := #[.int (68)], vm := .none },
  { cls := 9, slots := #[.int (69)], vm := .none },
  { cls := 9, slots := #[.int (70)], vm := .none },
  { cls := 9, slots := #[.int (71)], vm := .none },
  { cls := 9, slots := #[.int (72)], vm := .none },
  { cls := 9, slots := #[.int (73)], vm := .none },
  { cls := 9, slots := #[.int (74)], vm := .none },
  { cls := 9, slots := #[.int (75)], vm := .none },
  { cls := 9, slots := #[.int (76)], vm := .none },
  { cls := 9, slots := #[.int (77)], vm := .none },
  { cls := 9, slots := #[.int (78)], vm := .none },
  { cls := 9, slots := #[.int (79)], vm := .none },
  { cls := 9, slots := #[.int (80)], vm := .none },
  { cls := 9, slots := #[.int (81)], vm := .none },
  { cls := 9, slots := #[.int (82)], vm := .none },
  { cls := 9, slots := #[.int (83)], vm := .none },
  { cls := 9, slots := #[.int (84)], vm := .none },
  { cls := 9, slots := #[.int (85)], vm := .none },
  { cls := 9, slots := #[.int (86)], vm := .none },
  { cls := 9, slots := #[.int (87)], vm := .none },
  { cls := 9, slots := #[.int (88)], vm := .none },
  { cls := 9, slots := #[.int (89)], vm := .none },
  { cls := 9, slots := #[.int (90)], vm := .none },
  { cls := 9, slots := #[.int (91)], vm := .none },
  { cls := 9, slots := #[.int (92)], vm := .none },
  { cls := 9, slots := #[.int (93)], vm := .none },
  { cls := 9, slots := #[.int (94)], vm := .none },
  { cls := 9, slots := #[.int (95)], vm := .none },
  { cls := 9, slots := #[.int (96)], vm := .none },
  { cls := 9, slots := #[.int (97)], vm := .none },
  { cls := 9, slots := #[.int (98)], vm := .none },
  { cls := 9, slots := #[.int (99)], vm := .none },
  { cls := 9, slots := #[.int (100)], vm := .none },
  { cls := 9, slots := #[.int (101)], vm := .none },
  { cls := 9, slots := #[.int (102)], vm := .none },
  { cls := 9, slots := #[.int (103)], vm := .none },
  { cls := 9, slots := #[.int (104)], vm := .none },
  { cls := 9, slots := #[.int (105)], vm := .none },
  { cls := 9, slots := #[.int (106)], vm := .none },
  { cls := 9, slots := #[.int (107)], vm := .none },
  { cls := 9, slots := #[.int (108)], vm := .none },
  { cls := 9, slots := #[.int (109)], vm := .none },
  { cls := 9, slots := #[.int (110)], vm := .none },
  { cls := 9, slots := #[.int (111)], vm := .none },
  { cls := 9, slots := #[.int (112)], vm := .none },
  { cls := 9, slots := #[.int (113)], vm := .none },
  { cls := 9, slots := #[.int (114)], vm := .none },
  { cls := 9, slots := #[.int (115)], vm := .none },
  { cls := 9, slots := #[.int (116)], vm := .none },
  { cls := 9, slots := #[.int (117)], vm := .none },
  { cls := 9, slots := #[.int (118)], vm := .none },
  { cls := 9, slots := #[.int (119)], vm := .none },
  { cls := 9, slots := #[.int (120)], vm := .none },
  { cls := 9, slots := #[.int (121)], vm := .none },
  { cls := 9, slots := #[.int (122)], vm := .none },
  { cls := 9, slots := #[.int (123)], vm := .none },
  { cls := 9, slots := #[.int (124)], vm := .none },
  { cls := 9, slots := #[.int (125)], vm := .none },
  { cls := 9, slots := #[.int (126)], vm := .none },
  { cls := 9, slots := #[.int (127)], vm := .none }]
def classes : Array Class := #[k0, k1, k2, k3, k4, k5, k6, k7, k8, k9, k10, k11, k12, k13, k14, k15, k16]
def interned : List (Array UInt16 × Addr) := []
def slotsUsed : Nat := 517
def theMethod : MethodId := ⟨1, 2⟩
def args0 : Array Value := #[.int 5, .int 7, .int 9, .int 11, .int 13]
def aboutOver (below : List Frame) : State where
  vm := { classes := classes, interned := interned.toArray }
  heap := heap
  slotsUsed := slotsUsed
  threads := #[{ frames := .invoking theMethod args0 :: below }]
def below0 : List Frame := [.native { method := ⟨0, 0⟩, args := #[] }]
def about1 : State := aboutOver below0
def p0 : Program := .bare "" "" ""
def e0 : Env := launch0.env 0 0 0
theorem w_frames : about1.frames = Frame.invoking theMethod args0 :: below0 := rfl
set_option maxRecDepth 65536 in
theorem w_args : argsFit about1.vm theMethod args0 = true := by decide +kernel
set_option maxRecDepth 65536 in
theorem w_heap : heapFits about1 = true := by decide +kernel
set_option maxRecDepth 65536 in
theorem w_runnable : about1.curStatus? = some .runnable := by decide +kernel
set_option maxRecDepth 65536 in
theorem w_alone : about1.alone = true := by decide +kernel
set_option maxRecDepth 65536 in
theorem w_named : about1.methodNamed? x = some theMethod := by decide +kernel
set_option maxRecDepth 65536 in
theorem w_hears : about1.hears theMethod below0 = true := by decide +kernel
set_option maxRecDepth 65536 in
theorem w_ripe : about1.ripe theMethod args0 below0 = true := by decide +kernel
theorem w_running : about1.status = .running := rfl
set_option maxRecDepth 65536 in
theorem w_room : about1.hasRoom e0.platform room_1 = true :=
  launch0.hasRoom_least _ room_1 (by decide +kernel) (by decide +kernel) (by decide +kernel) (by decide +kernel) (by decide +kernel) (by decide +kernel)
theorem allAtoms_all (ts : List Jvm.Cond) (a : Array Jvm.Value) (st : Jvm.State) : (allAtoms ts).before a st = ts.all (fun c => c.before a st) := by
  induction ts with
  | nil => rfl
  | cons c t ih =>
    show (Jvm.Cond.and c (allAtoms t)).before a st = _
    rw [Jvm.Cond.before_and, ih, List.all_cons]
def words1 : List Jvm.Cond := Jvm.Cond.code x code maxLocals ret :: tables_1
/-- a 'code' word, met by the world's own term for the bytes: nothing is compared byte by byte -/
theorem code_word {y : MethodName} {bytes : ByteArray} {mx : Nat} {rt : Option FieldType} {a : Array Value} {s : State} {m : MethodId} {meth : Method} {c : Code} (h1 : s.methodNamed? y = some m) (h2 : s.vm.method? m = some meth) (h3 : meth.code = some c) (h4 : c.code = bytes)
    (h5 : (c.maxLocals == mx && c.exceptionTable.isEmpty && decide (c.maxStack ≤ mostOperands) && decide (meth.sig.returnType = rt) && !meth.locks && decide (parseMethodDescriptor y.desc = some meth.sig)) = true) : (Jvm.Cond.code y bytes mx rt).before a s = true := by
  simp only [Bool.and_eq_true, beq_iff_eq, Bool.not_eq_true', decide_eq_true_eq] at h5
  obtain ⟨⟨⟨⟨⟨g1, g2⟩, g3⟩, g4⟩, g5⟩, g6⟩ := h5
  simp [Cond.before, Cond.holds, Cond.value, h1, h2, h3, h4, g1, g2, g3, g4, g5, g6]
def isCode : Jvm.Cond → Bool
  | .code _ _ _ _ => true
  | _ => false
theorem all_split {L : List Jvm.Cond} {P : Jvm.Cond → Bool} (h1 : L.all (fun c => isCode c || P c) = true) (h2 : ∀ c ∈ L.filter isCode, P c = true) : L.all P = true := by
  refine List.all_eq_true.mpr fun c hc => ?_
  have h := List.all_eq_true.mp h1 c hc
  rcases Bool.eq_false_or_eq_true (isCode c) with hi | hi
  · exact h2 c (List.mem_filter.mpr ⟨hc, hi⟩)
  · simpa [hi] using h
set_option maxRecDepth 65536 in
theorem w_c0 : (Jvm.Cond.code x code maxLocals ret).before args0 about1 = true := code_word (m := ⟨1, 2⟩) (meth := k1m2) (c := k1c2) (by decide +kernel) rfl rfl rfl (by decide +kernel)
set_option maxRecDepth 65536 in
theorem w_c1 : (Jvm.Cond.code ({ cls := "com/example/vetter/vetter/profile/ResolutionEqualsPinLaw", name := "side", desc := "(I)I" } : Jvm.MethodName) method_2_code (1 : Nat) (Option.some Jvm.ClassFile.FieldType.int)).before args0 about1 = true := code_word (m := ⟨1, 1⟩) (meth := k1m1) (c := k1c1) (by decide +kernel) rfl rfl rfl (by decide +kernel)
set_option maxRecDepth 65536 in
theorem w_c2 : (Jvm.Cond.code ({ cls := "java/lang/Math", name := "max", desc := "(II)I" } : Jvm.MethodName) jdk_29_method_65_code (2 : Nat) (Option.some Jvm.ClassFile.FieldType.int)).before args0 about1 = true := code_word (m := ⟨2, 1⟩) (meth := k2m1) (c := k2c1) (by decide +kernel) rfl rfl rfl (by decide +kernel)
set_option maxRecDepth 65536 in
theorem w_c3 : (Jvm.Cond.code ({ cls := "com/example/vetter/vetter/profile/Resolution", name := "<init>", desc := "(II)V" } : Jvm.MethodName) prog_32_method_1_code (3 : Nat) (Option.none : Option Jvm.ClassFile.FieldType)).before args0 about1 = true := code_word (m := ⟨3, 0⟩) (meth := k3m0) (c := k3c0) (by decide +kernel) rfl rfl rfl (by decide +kernel)
set_option maxRecDepth 65536 in
theorem w_c4 : (Jvm.Cond.code ({ cls := "java/lang/Object", name := "<init>", desc := "()V" } : Jvm.MethodName) object_method_1_code (1 : Nat) (Option.none : Option Jvm.ClassFile.FieldType)).before args0 about1 = true := code_word (m := ⟨0, 0⟩) (meth := k0m0) (c := k0c0) (by decide +kernel) rfl rfl rfl (by decide +kernel)
set_option maxRecDepth 65536 in
theorem w_c5 : (Jvm.Cond.code ({ cls := "com/example/vetter/vetter/profile/Resolution", name := "equals", desc := "(Ljava/lang/Object;)Z" } : Jvm.MethodName) prog_32_method_6_code (2 : Nat) (Option.some Jvm.ClassFile.FieldType.boolean)).before args0 about1 = true := code_word (m := ⟨3, 1⟩) (meth := k3m1) (c := k3c1) (by decide +kernel) rfl rfl rfl (by decide +kernel)
set_option maxRecDepth 65536 in
theorem w_c6 : (Jvm.Cond.code ({ cls := "java/lang/Integer", name := "valueOf", desc := "(I)Ljava/lang/Integer;" } : Jvm.MethodName) jdk_33_method_22_code (1 : Nat) (Option.some (Jvm.ClassFile.FieldType.object "java/lang/Integer"))).before args0 about1 = true := code_word (m := ⟨9, 0⟩) (meth := k9m0) (c := k9c0) (by decide +kernel) rfl rfl rfl (by decide +kernel)
set_option maxRecDepth 65536 in
theorem w_c7 : (Jvm.Cond.code ({ cls := "java/lang/Integer", name := "<init>", desc := "(I)V" } : Jvm.MethodName) jdk_33_method_23_code (2 : Nat) (Option.none : Option Jvm.ClassFile.FieldType)).before args0 about1 = true := code_word (m := ⟨9, 1⟩) (meth := k9m1) (c := k9c1) (by decide +kernel) rfl rfl rfl (by decide +kernel)
set_option maxRecDepth 65536 in
theorem w_c8 : (Jvm.Cond.code ({ cls := "java/lang/Number", name := "<init>", desc := "()V" } : Jvm.MethodName) jdk_18_method_1_code (1 : Nat) (Option.none : Option Jvm.ClassFile.FieldType)).before args0 about1 = true := code_word (m := ⟨5, 0⟩) (meth := k5m0) (c := k5c0) (by decide +kernel) rfl rfl rfl (by decide +kernel)
def codes1 : List Jvm.Cond := [Jvm.Cond.code x code maxLocals ret, Jvm.Cond.code ({ cls := "com/example/vetter/vetter/profile/ResolutionEqualsPinLaw", name := "side", desc := "(I)I" } : Jvm.MethodName) method_2_code (1 : Nat) (Option.some Jvm.ClassFile.FieldType.int), Jvm.Cond.code ({ cls := "java/lang/Math", name := "max", desc := "(II)I" } : Jvm.MethodName) jdk_29_method_65_code (2 : Nat) (Option.some Jvm.ClassFile.FieldType.int), Jvm.Cond.code ({ cls := "com/example/vetter/vetter/profile/Resolution", name := "<init>", desc := "(II)V" } : Jvm.MethodName) prog_32_method_1_code (3 : Nat) (Option.none : Option Jvm.ClassFile.FieldType), Jvm.Cond.code ({ cls := "java/lang/Object", name := "<init>", desc := "()V" } : Jvm.MethodName) object_method_1_code (1 : Nat) (Option.none : Option Jvm.ClassFile.FieldType), Jvm.Cond.code ({ cls := "com/example/vetter/vetter/profile/Resolution", name := "equals", desc := "(Ljava/lang/Object;)Z" } : Jvm.MethodName) prog_32_method_6_code (2 : Nat) (Option.some Jvm.ClassFile.FieldType.boolean), Jvm.Cond.code ({ cls := "java/lang/Integer", name := "valueOf", desc := "(I)Ljava/lang/Integer;" } : Jvm.MethodName) jdk_33_method_22_code (1 : Nat) (Option.some (Jvm.ClassFile.FieldType.object "java/lang/Integer")), Jvm.Cond.code ({ cls := "java/lang/Integer", name := "<init>", desc := "(I)V" } : Jvm.MethodName) jdk_33_method_23_code (2 : Nat) (Option.none : Option Jvm.ClassFile.FieldType), Jvm.Cond.code ({ cls := "java/lang/Number", name := "<init>", desc := "()V" } : Jvm.MethodName) jdk_18_method_1_code (1 : Nat) (Option.none : Option Jvm.ClassFile.FieldType)]
set_option maxRecDepth 65536 in
theorem codes_eq : words1.filter isCode = codes1 := rfl
theorem w_codes : ∀ c ∈ words1.filter isCode, c.before args0 about1 = true := by
  rw [codes_eq]
  intro c hc
  simp only [codes1, List.mem_cons, List.not_mem_nil, or_false] at hc
  rcases hc with rfl | rfl | rfl | rfl | rfl | rfl | rfl | rfl | rfl
  · exact w_c0
  · exact w_c1
  · exact w_c2
  · exact w_c3
  · exact w_c4
  · exact w_c5
  · exact w_c6
  · exact w_c7
  · exact w_c8
set_option maxRecDepth 65536 in
theorem w_t1 : (words1.take 24).all (fun c => isCode c || c.before args0 about1) = true := by decide +kernel
set_option maxRecDepth 65536 in
theorem w_t2 : ((words1.drop 24).take 24).all (fun c => isCode c || c.before args0 about1) = true := by decide +kernel
set_option maxRecDepth 65536 in
theorem w_t3 : ((words1.drop 24).drop 24).all (fun c => isCode c || c.before args0 about1) = true := by decide +kernel
theorem w_tables : (allAtoms (Jvm.Cond.code x code maxLocals ret :: tables_1)).before args0 about1 = true := by
  rw [allAtoms_all]
  show words1.all (fun c => c.before args0 about1) = true
  refine all_split ?_ w_codes
  rw [← List.take_append_drop 24 words1, List.all_append, w_t1, ← List.take_append_drop 24 (words1.drop 24), List.all_append, w_t2, w_t3]
  rfl
set_option maxRecDepth 65536 in
theorem w_rest : rest_1_c.before args0 about1 = true := by decide +kernel
set_option maxRecDepth 65536 in
theorem w_case : (Jvm.Cond.and given_1 narrow_1).before args0 about1 = true := by decide +kernel
theorem w_applies : (headSpec (Jvm.Cond.code x code maxLocals ret :: tables_1) room_1).applies x e0.platform about1 = true :=
  (Spec.applies_iff w_frames).mpr ⟨w_running, w_runnable, w_alone, w_named, w_hears, w_ripe, w_room, w_tables⟩
theorem atStart : AtStart classFile x code maxLocals ret World_1 tables_1 room_1 Calls_1 rest_1 Pre_1 launch0 p0 e0 about1 theMethod args0 below0 :=
  ⟨lists_1, trivial, launch0.admits_env _ _ _, launch0.least_env, fairChoices_fair.cas, fairChoices_fair.clock, w_frames, w_args, w_heap, w_applies, trivial, w_rest, w_case⟩
end start1
theorem witness_1 : WitnessClaimed_1 := ⟨start1.p0, start1.e0, start1.about1, start1.theMethod, start1.args0, start1.below0, start1.atStart⟩
end Jvm.Pilot.@@N@@
