import JvmDerived
import JvmDerived.Pilot.@@N@@Statement
import JvmDerived.Pilot.@@N@@Code
set_option linter.unusedVariables false
set_option linter.unusedSimpArgs false

namespace Jvm.Pilot.@@N@@
open Jvm Jvm.ClassFile Sem Op Lib Jvm.Free Jvm.Stand Jvm.LawKit Jvm.RoadKit Bundle Jvm.Pilot.@@N@@.Jvm.D
/-- from the frame g' at S' the run comes to the frame g at S -/
abbrev Go (p : Program) (e : Env) (below : List Frame) (S : State) (g : JFrame) (S' : State) (g' : JFrame) : Prop := ∀ t, Steps p.tables e below (S.setTop g) t → Steps p.tables e below (S'.setTop g') t

theorem own_fld {args : Array Value} {s : State} {t : Term} {x : Addr} {C n d : String} {k : Int32} (ht : t.eval args s none [] s = some (.ref x)) (h : (Jvm.Cond.eq (.field t C n d) (.int k)).value args s none s [] = some true) : Fld s s.heap x C n d (.int k) := by
  obtain ⟨y, z, h1, h2, h3, -⟩ := cmp_v (Or.inl h)
  have h2' : z = .int k := by simpa [Term.eval] using h2.symm
  subst h2'
  obtain ⟨u, rfl⟩ : ∃ u, y = .int u := by cases y <;> simp [Kin, Value.isRef] at h3 ⊢
  have h4 : u = k := by simpa [Jvm.Cond.value, h1, h2] using h
  subst h4
  exact Fld.start ((fld_at ht).symm.trans h1)

theorem own_m7 (x : Int32) : (x &&& 2147483647) % 7 = 0 ∨ (x &&& 2147483647) % 7 = 1 ∨ (x &&& 2147483647) % 7 = 2 ∨ (x &&& 2147483647) % 7 = 3 ∨ (x &&& 2147483647) % 7 = 4 ∨ (x &&& 2147483647) % 7 = 5 ∨ (x &&& 2147483647) % 7 = 6 := by
  have h1 := c_mask x 2147483647 31 (by decide) (by decide)
  have h2 := (c_irem (x &&& 2147483647) 7 7 (by decide)).1 (by omega)
  generalize (x &&& 2147483647) % 7 = k at h2 ⊢
  have e0 : (0 : Int32).toInt = 0 := by decide
  have e1 : (1 : Int32).toInt = 1 := by decide
  have e2 : (2 : Int32).toInt = 2 := by decide
  have e3 : (3 : Int32).toInt = 3 := by decide
  have e4 : (4 : Int32).toInt = 4 := by decide
  have e5 : (5 : Int32).toInt = 5 := by decide
  have e6 : (6 : Int32).toInt = 6 := by decide
  simp only [← Int32.toInt_inj, e0, e1, e2, e3, e4, e5, e6]
  omega

def ordF (a w6 : Addr) : Int32 := if a = w6 then 0 else 1
theorem dF_0 : decode prog_29_method_6_code 0 = .ok (.aload_n 0, 1) := by decide +kernel
theorem dF_1 : decode prog_29_method_6_code 1 = .ok (.getstatic 22, 3) := by decide +kernel
theorem dF_4 : decode prog_29_method_6_code 4 = .ok (.if_acmp .eq 7, 3) := by decide +kernel
theorem dF_7 : decode prog_29_method_6_code 7 = .ok (.iconst 1, 1) := by decide +kernel
theorem dF_8 : decode prog_29_method_6_code 8 = .ok (.goto 4, 3) := by decide +kernel
theorem dF_11 : decode prog_29_method_6_code 11 = .ok (.iconst 0, 1) := by decide +kernel
theorem dF_12 : decode prog_29_method_6_code 12 = .ok (.ireturn, 1) := by decide +kernel
theorem pnF : plainName "com/example/uni_repos/unirepos/mapping/ValueType" = true := by first | (simp [plainName, overriddenIn]; done) | decide +kernel
theorem efF (m : MethodId) (a1 : Addr) : entryFrame m #[(.ref a1)] 1 = mkF m 0 #[.val (.ref a1)] [] := by first | (simp [entryFrame, mkF, argsToLocals, Value.category]; done) | rfl
def QF (Z : State) (a1 : Addr) (w6 : Addr) (r : Int32) (h0 : Heap) (n0 : Nat) (v : Option Value) (h : Heap) (L : List Loc) : Prop := v = some (.int r) ∧ Fr n0 L ∧ h = h0
set_option maxRecDepth 65536 in
set_option maxHeartbeats 40000000 in
theorem rmF (l : Launch) (Z : State) (a0 : Array Value) (hw : ∀ d ∈ tables_1, d.before a0 Z = true) (ws : List Jvm.Cond) (a1 : Addr) (w6 : Addr) (r : Int32) (h0 : Heap) (n0 : Nat) (Z0 : n0 ≤ h0.size) (S6 : Sta Z h0 "com/example/uni_repos/unirepos/mapping/ValueType" "POINT" "Lcom/example/uni_repos/unirepos/mapping/ValueType;" (.ref w6)) (hR : ordF a1 w6 = r) :
    MetFree l (⟨"com/example/uni_repos/unirepos/mapping/ValueType", "isOrdered", "()Z"⟩ : MethodName) (head1 (Jvm.Cond.code (⟨"com/example/uni_repos/unirepos/mapping/ValueType", "isOrdered", "()Z"⟩ : MethodName) prog_29_method_6_code 1 (some .boolean) :: ws) ({ frames := 0, cells := 0, slots := 0, locals := 0 } : Room)) (fun a U => a = #[(.ref a1)] ∧ Z.Warmed39 U.vm ∧ U.heap = h0) (fun _ _ _ _ _ => True) (fun _ U o U' => ∃ v L, o = .returned v ∧ QF Z a1 w6 r h0 n0 v U'.heap L ∧ FrameEnd U o U' L ({ frames := 0, cells := 0, slots := 0, locals := 0 } : Room).cells ({ frames := 0, cells := 0, slots := 0, locals := 0 } : Room).slots) := by
  refine MetFree.of_bodySF (plainFor_of_name pnF) hisR ?_
  intro p e s m args below meth c s₁ Bd hml0 hP hK
  obtain ⟨rfl, hZ, hh⟩ := hP
  have hx := Bd.exec
  have hby := Bd.bytes
  have hml : c.maxLocals = 1 := hml0
  have hown : s.vm.findClass "com/example/uni_repos/unirepos/mapping/ValueType" = some m.cls := findClass_of_methodNamed Bd.named
  have hnm := (name_of_methodNamed Bd.named Bd.method).1
  have X0 : Stand p l e ({ frames := 0, cells := 0, slots := 0, locals := 0 } : Room) s m #[(.ref a1)] below meth c s₁ [] 0 0 := Stand.of_body Bd
  have e0 : s₁.heap = h0 := by rw [← hh, Bd.state]; rfl
  have N0 := Fr.nil n0
  have pre0 : Go p e below s₁ (mkF m 0 #[.val (.ref a1)] []) s₁ (entryFrame m #[(.ref a1)] 1) := fun t k => castTop (efF m a1) k
  have pre1 : Go p e below s₁ (mkF m 1 #[.val (.ref a1)] [(.ref a1)]) s₁ (entryFrame m #[(.ref a1)] 1) := fun t k => pre0 t (by
      show Steps p.tables e below (s₁.setTop (mkF m 0 #[.val (.ref a1)] [])) t
      refine XS.aloadN X0.here hx rfl (hb hby dF_0) rfl rfl ?_
      exact k)
  obtain ⟨T2, X2, e2, st2⟩ := getS2 X0 hx hZ hown (host := "") (Or.inl (hw _ (List.mem_of_getElem? (i := 25) rfl))) Via.refl e0 S6 (g := (mkF m 1 #[.val (.ref a1)] [(.ref a1)])) rfl (hb hby dF_1)
  have pre3 : Go p e below T2 (mkF m 4 #[.val (.ref a1)] [(.ref w6), (.ref a1)]) s₁ (entryFrame m #[(.ref a1)] 1) := fun t k => pre1 t (st2 t k)
  by_cases ha4 : a1 = w6
  · have pre4 : Go p e below T2 (mkF m 11 #[.val (.ref a1)] []) s₁ (entryFrame m #[(.ref a1)] 1) := fun t k => pre3 t (Jvm.RoadKit.acmp (g := (mkF m 4 #[.val (.ref a1)] [(.ref w6), (.ref a1)])) X2 hx rfl rfl rfl (pc0 := 4) (pc' := 11) (same := true) rfl (hb hby dF_4) rfl (decide_eq_true (congrArg Value.ref ha4)) (by decide) (by decide) k)
    have pre5 : Go p e below T2 (mkF m 12 #[.val (.ref a1)] [(.int (0 : Int32))]) s₁ (entryFrame m #[(.ref a1)] 1) := fun t k => pre4 t (by
        show Steps p.tables e below (T2.setTop (mkF m 11 #[.val (.ref a1)] [])) t
        refine XS.iconst X2.here hx rfl (hb hby dF_11) ?_
        exact k)
    have hnr : Value.int (nar .boolean (0 : Int32)) = (.int (0 : Int32)) := by rfl
    obtain ⟨fs, hr, hrun, hended, hW, hsame⟩ := X2.leave (v := some (.int (0 : Int32))) (fun h => by rw [Bd.returns] at h; cases h)
    refine ⟨_, _, pre5 _ (retN X2 hx (t := .boolean) Bd.returns (by simp) (hb hby dF_12) (hnr ▸ hr)), hrun, hended, _, _, rfl, ?_, ⟨_, rfl⟩, hW, hsame.mono (by decide) (by decide)⟩
    show QF Z a1 w6 r h0 n0 _ T2.heap _
    rw [e2]
    exact ⟨by rw [← hR]; simp [ordF, ha4], N0, rfl⟩
  · have pre6 : Go p e below T2 (mkF m 7 #[.val (.ref a1)] []) s₁ (entryFrame m #[(.ref a1)] 1) := fun t k => pre3 t (Jvm.RoadKit.acmp (g := (mkF m 4 #[.val (.ref a1)] [(.ref w6), (.ref a1)])) X2 hx rfl rfl rfl (pc0 := 4) (pc' := 7) (same := false) rfl (hb hby dF_4) rfl (decide_eq_false fun q => ha4 (Value.ref.inj q)) (by decide) (by decide) k)
    have pre7 : Go p e below T2 (mkF m 12 #[.val (.ref a1)] [(.int (1 : Int32))]) s₁ (entryFrame m #[(.ref a1)] 1) := fun t k => pre6 t (by
        show Steps p.tables e below (T2.setTop (mkF m 7 #[.val (.ref a1)] [])) t
        refine XS.iconst X2.here hx rfl (hb hby dF_7) ?_
        show Steps p.tables e below (T2.setTop (mkF m 8 #[.val (.ref a1)] [(.int (1 : Int32))])) t
        refine XS.goto X2.here hx rfl (pc0 := 8) (pc' := 12) rfl (hb hby dF_8) (by decide) (by decide) ?_
        exact k)
    have hnr : Value.int (nar .boolean (1 : Int32)) = (.int (1 : Int32)) := by rfl
    obtain ⟨fs, hr, hrun, hended, hW, hsame⟩ := X2.leave (v := some (.int (1 : Int32))) (fun h => by rw [Bd.returns] at h; cases h)
    refine ⟨_, _, pre7 _ (retN X2 hx (t := .boolean) Bd.returns (by simp) (hb hby dF_12) (hnr ▸ hr)), hrun, hended, _, _, rfl, ?_, ⟨_, rfl⟩, hW, hsame.mono (by decide) (by decide)⟩
    show QF Z a1 w6 r h0 n0 _ T2.heap _
    rw [e2]
    exact ⟨by rw [← hR]; simp [ordF, ha4], N0, rfl⟩
theorem pnL : plainName "com/example/uni_repos/unirepos/mapping/ValueTypeIsOrderedPinLaw" = true := by first | (simp [plainName, overriddenIn]; done) | decide +kernel
theorem pdL_0 : parseMethodDescriptor "()Z" = some ⟨[], some .boolean⟩ := by decide +kernel
theorem efL (m : MethodId) (p1 : Int32) : entryFrame m #[(.int p1)] maxLocals = mkF m 0 #[.val (.int p1), .unset, .unset, .unset] [] := by first | (simp [entryFrame, mkF, argsToLocals, Value.category, maxLocals]; done) | rfl
def QL (Z : State) (p1 : Int32) (w0 : Addr) (w1 : Addr) (w2 : Addr) (w3 : Addr) (w4 : Addr) (w5 : Addr) (w6 : Addr) (h0 : Heap) (n0 : Nat) (v : Option Value) (h : Heap) (L : List Loc) : Prop := v = some (.int 1) ∧ Fr n0 L
set_option maxRecDepth 65536 in
set_option maxHeartbeats 40000000 in
theorem rmL (l : Launch) (Z : State) (a0 : Array Value) (hw : ∀ d ∈ tables_1, d.before a0 Z = true) (ws : List Jvm.Cond) (p1 : Int32) (w0 : Addr) (w1 : Addr) (w2 : Addr) (w3 : Addr) (w4 : Addr) (w5 : Addr) (w6 : Addr) (h0 : Heap) (n0 : Nat) (Z0 : n0 ≤ h0.size) (O0 : Old Z n0 h0) (S0 : Sta Z Z.heap "com/example/uni_repos/unirepos/mapping/ValueType" "STRING" "Lcom/example/uni_repos/unirepos/mapping/ValueType;" (.ref w0)) (S1 : Sta Z Z.heap "com/example/uni_repos/unirepos/mapping/ValueType" "BOOLEAN" "Lcom/example/uni_repos/unirepos/mapping/ValueType;" (.ref w1)) (S2 : Sta Z Z.heap "com/example/uni_repos/unirepos/mapping/ValueType" "INT" "Lcom/example/uni_repos/unirepos/mapping/ValueType;" (.ref w2)) (S3 : Sta Z Z.heap "com/example/uni_repos/unirepos/mapping/ValueType" "LONG" "Lcom/example/uni_repos/unirepos/mapping/ValueType;" (.ref w3)) (S4 : Sta Z Z.heap "com/example/uni_repos/unirepos/mapping/ValueType" "DOUBLE" "Lcom/example/uni_repos/unirepos/mapping/ValueType;" (.ref w4)) (S5 : Sta Z Z.heap "com/example/uni_repos/unirepos/mapping/ValueType" "DATE" "Lcom/example/uni_repos/unirepos/mapping/ValueType;" (.ref w5)) (S6 : Sta Z Z.heap "com/example/uni_repos/unirepos/mapping/ValueType" "POINT" "Lcom/example/uni_repos/unirepos/mapping/ValueType;" (.ref w6)) (E0 : Exa Z Z.heap w0 "com/example/uni_repos/unirepos/mapping/ValueType") (E1 : Exa Z Z.heap w1 "com/example/uni_repos/unirepos/mapping/ValueType") (E2 : Exa Z Z.heap w2 "com/example/uni_repos/unirepos/mapping/ValueType") (E3 : Exa Z Z.heap w3 "com/example/uni_repos/unirepos/mapping/ValueType") (E4 : Exa Z Z.heap w4 "com/example/uni_repos/unirepos/mapping/ValueType") (E5 : Exa Z Z.heap w5 "com/example/uni_repos/unirepos/mapping/ValueType") (E6 : Exa Z Z.heap w6 "com/example/uni_repos/unirepos/mapping/ValueType") (d0 : w0 ≠ w6) (d1 : w1 ≠ w6) (d2 : w2 ≠ w6) (d3 : w3 ≠ w6) (d4 : w4 ≠ w6) (d5 : w5 ≠ w6) :
    MetFree l x (head1 (Jvm.Cond.code x code maxLocals ret :: ws) room_1) (fun a U => a = #[(.int p1)] ∧ Z.Warmed39 U.vm ∧ U.heap = h0) (fun _ _ _ _ _ => True) (fun _ U o U' => ∃ v L, o = .returned v ∧ QL Z p1 w0 w1 w2 w3 w4 w5 w6 h0 n0 v U'.heap L ∧ FrameEnd U o U' L room_1.cells room_1.slots) := by
  refine MetFree.of_bodySF (plainFor_of_name pnL) hisR ?_
  intro p e s m args below meth c s₁ Bd hml0 hP hK
  obtain ⟨rfl, hZ, hh⟩ := hP
  have hx := Bd.exec
  have hby := Bd.bytes
  have hml : c.maxLocals = 4 := hml0
  have hown : s.vm.findClass "com/example/uni_repos/unirepos/mapping/ValueTypeIsOrderedPinLaw" = some m.cls := findClass_of_methodNamed Bd.named
  have hnm := (name_of_methodNamed Bd.named Bd.method).1
  have X0 : Stand p l e room_1 s m #[(.int p1)] below meth c s₁ [] 0 0 := Stand.of_body Bd
  have e0 : s₁.heap = h0 := by rw [← hh, Bd.state]; rfl
  have N0 := Fr.nil n0
  have pre0 : Go p e below s₁ (mkF m 0 #[.val (.int p1), .unset, .unset, .unset] []) s₁ (entryFrame m #[(.int p1)] maxLocals) := fun t k => castTop (efL m p1) k
  have pre1 : Go p e below s₁ (mkF m 2 #[.val (.int p1), .unset, .unset, .unset] [(.int (7 : Int32))]) s₁ (entryFrame m #[(.int p1)] maxLocals) := fun t k => pre0 t (by
      show Steps p.tables e below (s₁.setTop (mkF m 0 #[.val (.int p1), .unset, .unset, .unset] [])) t
      refine XS.bipush X0.here hx rfl (hb hby at_0) ?_
      exact k)
  obtain ⟨T2, h2, k2, X2, e2, Et2, A2, Ov2, st2⟩ := newR X0 hx hZ hown (hw _ (List.mem_of_getElem? (i := 0) rfl)) (hw _ (List.mem_of_getElem? (i := 1) rfl)) e0 (g := (mkF m 2 #[.val (.int p1), .unset, .unset, .unset] [(.int (7 : Int32))])) rfl (hb hby at_2) rfl (by decide) (cap := 7) (by decide) (by decide) (by decide) (by decide)
  obtain ⟨b2, g2⟩ : ∃ z, z = h0.size := ⟨_, rfl⟩
  rw [← g2] at A2 st2
  have g_b2 : n0 ≤ b2 := Nat.le_trans Z0 (Nat.le_of_eq g2.symm)
  have pre3 : Go p e below T2 (mkF m 5 #[.val (.int p1), .unset, .unset, .unset] [(.ref b2)]) s₁ (entryFrame m #[(.int p1)] maxLocals) := fun t k => pre1 t (st2 t k)
  have O4 : Old Z n0 h2 := O0.ext Et2
  have Z4 : n0 ≤ h2.size := Nat.le_trans Z0 Et2.1
  have V2 : Arv Z h2 b2 k2 (.object "com/example/uni_repos/unirepos/mapping/ValueType") (7 : Int32) [.null, .null, .null, .null, .null, .null, .null] .null := (Arv.new A2 (by decide)).pad (pad_rep [] .null 7)
  have pre5 : Go p e below T2 (mkF m 7 #[.val (.int p1), .unset, .unset, .unset] [(.int (0 : Int32)), (.ref b2), (.ref b2)]) s₁ (entryFrame m #[(.int p1)] maxLocals) := fun t k => pre3 t (by
      show Steps p.tables e below (T2.setTop (mkF m 5 #[.val (.int p1), .unset, .unset, .unset] [(.ref b2)])) t
      refine XS.dup X2.here hx rfl (hb hby at_5) rfl rfl ?_
      show Steps p.tables e below (T2.setTop (mkF m 6 #[.val (.int p1), .unset, .unset, .unset] [(.ref b2), (.ref b2)])) t
      refine XS.iconst X2.here hx rfl (hb hby at_6) ?_
      exact k)
  obtain ⟨T6, X6, e6, st6⟩ := getS2 X2 hx hZ hown (host := "") (Or.inl (hw _ (List.mem_of_getElem? (i := 2) rfl))) Via.refl e2 (S0.ext O4.2) (g := (mkF m 7 #[.val (.int p1), .unset, .unset, .unset] [(.int (0 : Int32)), (.ref b2), (.ref b2)])) rfl (hb hby at_7)
  have pre7 : Go p e below T6 (mkF m 10 #[.val (.int p1), .unset, .unset, .unset] [(.ref w0), (.int (0 : Int32)), (.ref b2), (.ref b2)]) s₁ (entryFrame m #[(.int p1)] maxLocals) := fun t k => pre5 t (st6 t k)
  obtain ⟨cl8, Ar8, q8, Sz8, M8, H8, G8⟩ := V2
  have hin8 : ¬ ((0 : Int32) < 0 ∨ cl8.slots.size ≤ ((0 : Int32)).toNatClampNeg) := inb_of Sz8 ⟨by decide, by decide⟩
  obtain ⟨T8, h8, X8, e8, W8, st8⟩ := stR X6 hx hZ e6 Ar8 (j := (0 : Int32)) hin8 rfl (Sto.ofV Ar8 q8 Ov2 (Ins.self (E0.ext O4.2))) (g := (mkF m 10 #[.val (.int p1), .unset, .unset, .unset] [(.ref w0), (.int (0 : Int32)), (.ref b2), (.ref b2)])) rfl rfl (hb hby at_10)
  have pre9 : Go p e below T8 (mkF m 11 #[.val (.int p1), .unset, .unset, .unset] [(.ref b2)]) s₁ (entryFrame m #[(.int p1)] maxLocals) := fun t k => pre7 t (st8 t k)
  have O10 : Old Z n0 h8 := O4.wr W8 g_b2
  have Z10 : n0 ≤ h8.size := Nat.le_trans Z4 (Keep.of_wr W8).1
  have V8 : Arv Z h8 b2 k2 (.object "com/example/uni_repos/unirepos/mapping/ValueType") (7 : Int32) [(.ref w0), .null, .null, .null, .null, .null, .null] .null := Arv.set Ar8 q8 Sz8 M8 H8 G8 rfl W8 0 rfl (Nat.le_of_ble_eq_true rfl)
  have N8 := Fr.snoc X8 N0 g_b2
  have pre11 : Go p e below T8 (mkF m 13 #[.val (.int p1), .unset, .unset, .unset] [(.int (1 : Int32)), (.ref b2), (.ref b2)]) s₁ (entryFrame m #[(.int p1)] maxLocals) := fun t k => pre9 t (by
      show Steps p.tables e below (T8.setTop (mkF m 11 #[.val (.int p1), .unset, .unset, .unset] [(.ref b2)])) t
      refine XS.dup X8.here hx rfl (hb hby at_11) rfl rfl ?_
      show Steps p.tables e below (T8.setTop (mkF m 12 #[.val (.int p1), .unset, .unset, .unset] [(.ref b2), (.ref b2)])) t
      refine XS.iconst X8.here hx rfl (hb hby at_12) ?_
      exact k)
  obtain ⟨T12, X12, e12, st12⟩ := getS2 X8 hx hZ hown (host := "") (Or.inl (hw _ (List.mem_of_getElem? (i := 6) rfl))) Via.refl e8 (S1.ext O10.2) (g := (mkF m 13 #[.val (.int p1), .unset, .unset, .unset] [(.int (1 : Int32)), (.ref b2), (.ref b2)])) rfl (hb hby at_13)
  have pre13 : Go p e below T12 (mkF m 16 #[.val (.int p1), .unset, .unset, .unset] [(.ref w1), (.int (1 : Int32)), (.ref b2), (.ref b2)]) s₁ (entryFrame m #[(.int p1)] maxLocals) := fun t k => pre11 t (st12 t k)
  obtain ⟨cl14, Ar14, q14, Sz14, M14, H14, G14⟩ := V8
  have hin14 : ¬ ((1 : Int32) < 0 ∨ cl14.slots.size ≤ ((1 : Int32)).toNatClampNeg) := inb_of Sz14 ⟨by decide, by decide⟩
  obtain ⟨T14, h14, X14, e14, W14, st14⟩ := stR X12 hx hZ e12 Ar14 (j := (1 : Int32)) hin14 rfl (Sto.ofV Ar14 q14 Ov2 (Ins.self (E1.ext O10.2))) (g := (mkF m 16 #[.val (.int p1), .unset, .unset, .unset] [(.ref w1), (.int (1 : Int32)), (.ref b2), (.ref b2)])) rfl rfl (hb hby at_16)
  have pre15 : Go p e below T14 (mkF m 17 #[.val (.int p1), .unset, .unset, .unset] [(.ref b2)]) s₁ (entryFrame m #[(.int p1)] maxLocals) := fun t k => pre13 t (st14 t k)
  have O16 : Old Z n0 h14 := O10.wr W14 g_b2
  have Z16 : n0 ≤ h14.size := Nat.le_trans Z10 (Keep.of_wr W14).1
  have V14 : Arv Z h14 b2 k2 (.object "com/example/uni_repos/unirepos/mapping/ValueType") (7 : Int32) [(.ref w0), (.ref w1), .null, .null, .null, .null, .null] .null := Arv.set Ar14 q14 Sz14 M14 H14 G14 rfl W14 1 rfl (Nat.le_of_ble_eq_true rfl)
  have N14 := Fr.snoc X14 N8 g_b2
  have pre17 : Go p e below T14 (mkF m 19 #[.val (.int p1), .unset, .unset, .unset] [(.int (2 : Int32)), (.ref b2), (.ref b2)]) s₁ (entryFrame m #[(.int p1)] maxLocals) := fun t k => pre15 t (by
      show Steps p.tables e below (T14.setTop (mkF m 17 #[.val (.int p1), .unset, .unset, .unset] [(.ref b2)])) t
      refine XS.dup X14.here hx rfl (hb hby at_17) rfl rfl ?_
      show Steps p.tables e below (T14.setTop (mkF m 18 #[.val (.int p1), .unset, .unset, .unset] [(.ref b2), (.ref b2)])) t
      refine XS.iconst X14.here hx rfl (hb hby at_18) ?_
      exact k)
  obtain ⟨T18, X18, e18, st18⟩ := getS2 X14 hx hZ hown (host := "") (Or.inl (hw _ (List.mem_of_getElem? (i := 8) rfl))) Via.refl e14 (S2.ext O16.2) (g := (mkF m 19 #[.val (.int p1), .unset, .unset, .unset] [(.int (2 : Int32)), (.ref b2), (.ref b2)])) rfl (hb hby at_19)
  have pre19 : Go p e below T18 (mkF m 22 #[.val (.int p1), .unset, .unset, .unset] [(.ref w2), (.int (2 : Int32)), (.ref b2), (.ref b2)]) s₁ (entryFrame m #[(.int p1)] maxLocals) := fun t k => pre17 t (st18 t k)
  obtain ⟨cl20, Ar20, q20, Sz20, M20, H20, G20⟩ := V14
  have hin20 : ¬ ((2 : Int32) < 0 ∨ cl20.slots.size ≤ ((2 : Int32)).toNatClampNeg) := inb_of Sz20 ⟨by decide, by decide⟩
  obtain ⟨T20, h20, X20, e20, W20, st20⟩ := stR X18 hx hZ e18 Ar20 (j := (2 : Int32)) hin20 rfl (Sto.ofV Ar20 q20 Ov2 (Ins.self (E2.ext O16.2))) (g := (mkF m 22 #[.val (.int p1), .unset, .unset, .unset] [(.ref w2), (.int (2 : Int32)), (.ref b2), (.ref b2)])) rfl rfl (hb hby at_22)
  have pre21 : Go p e below T20 (mkF m 23 #[.val (.int p1), .unset, .unset, .unset] [(.ref b2)]) s₁ (entryFrame m #[(.int p1)] maxLocals) := fun t k => pre19 t (st20 t k)
  have O22 : Old Z n0 h20 := O16.wr W20 g_b2
  have Z22 : n0 ≤ h20.size := Nat.le_trans Z16 (Keep.of_wr W20).1
  have V20 : Arv Z h20 b2 k2 (.object "com/example/uni_repos/unirepos/mapping/ValueType") (7 : Int32) [(.ref w0), (.ref w1), (.ref w2), .null, .null, .null, .null] .null := Arv.set Ar20 q20 Sz20 M20 H20 G20 rfl W20 2 rfl (Nat.le_of_ble_eq_true rfl)
  have N20 := Fr.snoc X20 N14 g_b2
  have pre23 : Go p e below T20 (mkF m 25 #[.val (.int p1), .unset, .unset, .unset] [(.int (3 : Int32)), (.ref b2), (.ref b2)]) s₁ (entryFrame m #[(.int p1)] maxLocals) := fun t k => pre21 t (by
      show Steps p.tables e below (T20.setTop (mkF m 23 #[.val (.int p1), .unset, .unset, .unset] [(.ref b2)])) t
      refine XS.dup X20.here hx rfl (hb hby at_23) rfl rfl ?_
      show Steps p.tables e below (T20.setTop (mkF m 24 #[.val (.int p1), .unset, .unset, .unset] [(.ref b2), (.ref b2)])) t
      refine XS.iconst X20.here hx rfl (hb hby at_24) ?_
      exact k)
  obtain ⟨T24, X24, e24, st24⟩ := getS2 X20 hx hZ hown (host := "") (Or.inl (hw _ (List.mem_of_getElem? (i := 10) rfl))) Via.refl e20 (S3.ext O22.2) (g := (mkF m 25 #[.val (.int p1), .unset, .unset, .unset] [(.int (3 : Int32)), (.ref b2), (.ref b2)])) rfl (hb hby at_25)
  have pre25 : Go p e below T24 (mkF m 28 #[.val (.int p1), .unset, .unset, .unset] [(.ref w3), (.int (3 : Int32)), (.ref b2), (.ref b2)]) s₁ (entryFrame m #[(.int p1)] maxLocals) := fun t k => pre23 t (st24 t k)
  obtain ⟨cl26, Ar26, q26, Sz26, M26, H26, G26⟩ := V20
  have hin26 : ¬ ((3 : Int32) < 0 ∨ cl26.slots.size ≤ ((3 : Int32)).toNatClampNeg) := inb_of Sz26 ⟨by decide, by decide⟩
  obtain ⟨T26, h26, X26, e26, W26, st26⟩ := stR X24 hx hZ e24 Ar26 (j := (3 : Int32)) hin26 rfl (Sto.ofV Ar26 q26 Ov2 (Ins.self (E3.ext O22.2))) (g := (mkF m 28 #[.val (.int p1), .unset, .unset, .unset] [(.ref w3), (.int (3 : Int32)), (.ref b2), (.ref b2)])) rfl rfl (hb hby at_28)
  have pre27 : Go p e below T26 (mkF m 29 #[.val (.int p1), .unset, .unset, .unset] [(.ref b2)]) s₁ (entryFrame m #[(.int p1)] maxLocals) := fun t k => pre25 t (st26 t k)
  have O28 : Old Z n0 h26 := O22.wr W26 g_b2
  have Z28 : n0 ≤ h26.size := Nat.le_trans Z22 (Keep.of_wr W26).1
  have V26 : Arv Z h26 b2 k2 (.object "com/example/uni_repos/unirepos/mapping/ValueType") (7 : Int32) [(.ref w0), (.ref w1), (.ref w2), (.ref w3), .null, .null, .null] .null := Arv.set Ar26 q26 Sz26 M26 H26 G26 rfl W26 3 rfl (Nat.le_of_ble_eq_true rfl)
  have N26 := Fr.snoc X26 N20 g_b2
  have pre29 : Go p e below T26 (mkF m 31 #[.val (.int p1), .unset, .unset, .unset] [(.int (4 : Int32)), (.ref b2), (.ref b2)]) s₁ (entryFrame m #[(.int p1)] maxLocals) := fun t k => pre27 t (by
      show Steps p.tables e below (T26.setTop (mkF m 29 #[.val (.int p1), .unset, .unset, .unset] [(.ref b2)])) t
      refine XS.dup X26.here hx rfl (hb hby at_29) rfl rfl ?_
      show Steps p.tables e below (T26.setTop (mkF m 30 #[.val (.int p1), .unset, .unset, .unset] [(.ref b2), (.ref b2)])) t
      refine XS.iconst X26.here hx rfl (hb hby at_30) ?_
      exact k)
  obtain ⟨T30, X30, e30, st30⟩ := getS2 X26 hx hZ hown (host := "") (Or.inl (hw _ (List.mem_of_getElem? (i := 12) rfl))) Via.refl e26 (S4.ext O28.2) (g := (mkF m 31 #[.val (.int p1), .unset, .unset, .unset] [(.int (4 : Int32)), (.ref b2), (.ref b2)])) rfl (hb hby at_31)
  have pre31 : Go p e below T30 (mkF m 34 #[.val (.int p1), .unset, .unset, .unset] [(.ref w4), (.int (4 : Int32)), (.ref b2), (.ref b2)]) s₁ (entryFrame m #[(.int p1)] maxLocals) := fun t k => pre29 t (st30 t k)
  obtain ⟨cl32, Ar32, q32, Sz32, M32, H32, G32⟩ := V26
  have hin32 : ¬ ((4 : Int32) < 0 ∨ cl32.slots.size ≤ ((4 : Int32)).toNatClampNeg) := inb_of Sz32 ⟨by decide, by decide⟩
  obtain ⟨T32, h32, X32, e32, W32, st32⟩ := stR X30 hx hZ e30 Ar32 (j := (4 : Int32)) hin32 rfl (Sto.ofV Ar32 q32 Ov2 (Ins.self (E4.ext O28.2))) (g := (mkF m 34 #[.val (.int p1), .unset, .unset, .unset] [(.ref w4), (.int (4 : Int32)), (.ref b2), (.ref b2)])) rfl rfl (hb hby at_34)
  have pre33 : Go p e below T32 (mkF m 35 #[.val (.int p1), .unset, .unset, .unset] [(.ref b2)]) s₁ (entryFrame m #[(.int p1)] maxLocals) := fun t k => pre31 t (st32 t k)
  have O34 : Old Z n0 h32 := O28.wr W32 g_b2
  have Z34 : n0 ≤ h32.size := Nat.le_trans Z28 (Keep.of_wr W32).1
  have V32 : Arv Z h32 b2 k2 (.object "com/example/uni_repos/unirepos/mapping/ValueType") (7 : Int32) [(.ref w0), (.ref w1), (.ref w2), (.ref w3), (.ref w4), .null, .null] .null := Arv.set Ar32 q32 Sz32 M32 H32 G32 rfl W32 4 rfl (Nat.le_of_ble_eq_true rfl)
  have N32 := Fr.snoc X32 N26 g_b2
  have pre35 : Go p e below T32 (mkF m 37 #[.val (.int p1), .unset, .unset, .unset] [(.int (5 : Int32)), (.ref b2), (.ref b2)]) s₁ (entryFrame m #[(.int p1)] maxLocals) := fun t k => pre33 t (by
      show Steps p.tables e below (T32.setTop (mkF m 35 #[.val (.int p1), .unset, .unset, .unset] [(.ref b2)])) t
      refine XS.dup X32.here hx rfl (hb hby at_35) rfl rfl ?_
      show Steps p.tables e below (T32.setTop (mkF m 36 #[.val (.int p1), .unset, .unset, .unset] [(.ref b2), (.ref b2)])) t
      refine XS.iconst X32.here hx rfl (hb hby at_36) ?_
      exact k)
  obtain ⟨T36, X36, e36, st36⟩ := getS2 X32 hx hZ hown (host := "") (Or.inl (hw _ (List.mem_of_getElem? (i := 14) rfl))) Via.refl e32 (S5.ext O34.2) (g := (mkF m 37 #[.val (.int p1), .unset, .unset, .unset] [(.int (5 : Int32)), (.ref b2), (.ref b2)])) rfl (hb hby at_37)
  have pre37 : Go p e below T36 (mkF m 40 #[.val (.int p1), .unset, .unset, .unset] [(.ref w5), (.int (5 : Int32)), (.ref b2), (.ref b2)]) s₁ (entryFrame m #[(.int p1)] maxLocals) := fun t k => pre35 t (st36 t k)
  obtain ⟨cl38, Ar38, q38, Sz38, M38, H38, G38⟩ := V32
  have hin38 : ¬ ((5 : Int32) < 0 ∨ cl38.slots.size ≤ ((5 : Int32)).toNatClampNeg) := inb_of Sz38 ⟨by decide, by decide⟩
  obtain ⟨T38, h38, X38, e38, W38, st38⟩ := stR X36 hx hZ e36 Ar38 (j := (5 : Int32)) hin38 rfl (Sto.ofV Ar38 q38 Ov2 (Ins.self (E5.ext O34.2))) (g := (mkF m 40 #[.val (.int p1), .unset, .unset, .unset] [(.ref w5), (.int (5 : Int32)), (.ref b2), (.ref b2)])) rfl rfl (hb hby at_40)
  have pre39 : Go p e below T38 (mkF m 41 #[.val (.int p1), .unset, .unset, .unset] [(.ref b2)]) s₁ (entryFrame m #[(.int p1)] maxLocals) := fun t k => pre37 t (st38 t k)
  have O40 : Old Z n0 h38 := O34.wr W38 g_b2
  have Z40 : n0 ≤ h38.size := Nat.le_trans Z34 (Keep.of_wr W38).1
  have V38 : Arv Z h38 b2 k2 (.object "com/example/uni_repos/unirepos/mapping/ValueType") (7 : Int32) [(.ref w0), (.ref w1), (.ref w2), (.ref w3), (.ref w4), (.ref w5), .null] .null := Arv.set Ar38 q38 Sz38 M38 H38 G38 rfl W38 5 rfl (Nat.le_of_ble_eq_true rfl)
  have N38 := Fr.snoc X38 N32 g_b2
  have pre41 : Go p e below T38 (mkF m 44 #[.val (.int p1), .unset, .unset, .unset] [(.int (6 : Int32)), (.ref b2), (.ref b2)]) s₁ (entryFrame m #[(.int p1)] maxLocals) := fun t k => pre39 t (by
      show Steps p.tables e below (T38.setTop (mkF m 41 #[.val (.int p1), .unset, .unset, .unset] [(.ref b2)])) t
      refine XS.dup X38.here hx rfl (hb hby at_41) rfl rfl ?_
      show Steps p.tables e below (T38.setTop (mkF m 42 #[.val (.int p1), .unset, .unset, .unset] [(.ref b2), (.ref b2)])) t
      refine XS.bipush X38.here hx rfl (hb hby at_42) ?_
      exact k)
  obtain ⟨T42, X42, e42, st42⟩ := getS2 X38 hx hZ hown (host := "") (Or.inl (hw _ (List.mem_of_getElem? (i := 16) rfl))) Via.refl e38 (S6.ext O40.2) (g := (mkF m 44 #[.val (.int p1), .unset, .unset, .unset] [(.int (6 : Int32)), (.ref b2), (.ref b2)])) rfl (hb hby at_44)
  have pre43 : Go p e below T42 (mkF m 47 #[.val (.int p1), .unset, .unset, .unset] [(.ref w6), (.int (6 : Int32)), (.ref b2), (.ref b2)]) s₁ (entryFrame m #[(.int p1)] maxLocals) := fun t k => pre41 t (st42 t k)
  obtain ⟨cl44, Ar44, q44, Sz44, M44, H44, G44⟩ := V38
  have hin44 : ¬ ((6 : Int32) < 0 ∨ cl44.slots.size ≤ ((6 : Int32)).toNatClampNeg) := inb_of Sz44 ⟨by decide, by decide⟩
  obtain ⟨T44, h44, X44, e44, W44, st44⟩ := stR X42 hx hZ e42 Ar44 (j := (6 : Int32)) hin44 rfl (Sto.ofV Ar44 q44 Ov2 (Ins.self (E6.ext O40.2))) (g := (mkF m 47 #[.val (.int p1), .unset, .unset, .unset] [(.ref w6), (.int (6 : Int32)), (.ref b2), (.ref b2)])) rfl rfl (hb hby at_47)
  have pre45 : Go p e below T44 (mkF m 48 #[.val (.int p1), .unset, .unset, .unset] [(.ref b2)]) s₁ (entryFrame m #[(.int p1)] maxLocals) := fun t k => pre43 t (st44 t k)
  have O46 : Old Z n0 h44 := O40.wr W44 g_b2
  have Z46 : n0 ≤ h44.size := Nat.le_trans Z40 (Keep.of_wr W44).1
  have V44 : Arv Z h44 b2 k2 (.object "com/example/uni_repos/unirepos/mapping/ValueType") (7 : Int32) [(.ref w0), (.ref w1), (.ref w2), (.ref w3), (.ref w4), (.ref w5), (.ref w6)] .null := Arv.set Ar44 q44 Sz44 M44 H44 G44 rfl W44 6 rfl (Nat.le_of_ble_eq_true rfl)
  have N44 := Fr.snoc X44 N38 g_b2
  have pre47 : Go p e below T44 (mkF m 51 #[.val (.int p1), .val (.ref b2), .unset, .unset] [(.int (7 : Int32))]) s₁ (entryFrame m #[(.int p1)] maxLocals) := fun t k => pre45 t (by
      show Steps p.tables e below (T44.setTop (mkF m 48 #[.val (.int p1), .unset, .unset, .unset] [(.ref b2)])) t
      refine XS.astoreN X44.here hx rfl (hb hby at_48) rfl rfl (l' := #[.val (.int p1), .val (.ref b2), .unset, .unset]) rfl ?_
      show Steps p.tables e below (T44.setTop (mkF m 49 #[.val (.int p1), .val (.ref b2), .unset, .unset] [])) t
      refine XS.bipush X44.here hx rfl (hb hby at_49) ?_
      exact k)
  obtain ⟨T48, h48, k48, X48, e48, Et48, A48, st48⟩ := newP X44 hx hZ (hw _ (List.mem_of_getElem? (i := 18) rfl)) e44 (g := (mkF m 51 #[.val (.int p1), .val (.ref b2), .unset, .unset] [(.int (7 : Int32))])) rfl (hb hby at_51) rfl (by decide) (cap := 7) (by decide) (by decide) (by decide) (by decide)
  obtain ⟨b48, g48⟩ : ∃ z, z = h44.size := ⟨_, rfl⟩
  rw [← g48] at A48 st48
  have g_b48 : n0 ≤ b48 := Nat.le_trans Z46 (Nat.le_of_eq g48.symm)
  have ne_b2_b48 : b2 ≠ b48 := Nat.ne_of_lt (Nat.lt_of_lt_of_le V44.lt (Nat.le_of_eq g48.symm))
  have pre49 : Go p e below T48 (mkF m 53 #[.val (.int p1), .val (.ref b2), .unset, .unset] [(.ref b48)]) s₁ (entryFrame m #[(.int p1)] maxLocals) := fun t k => pre47 t (st48 t k)
  have O50 : Old Z n0 h48 := O46.ext Et48
  have Z50 : n0 ≤ h48.size := Nat.le_trans Z46 Et48.1
  have V48 : Arv Z h48 b48 k48 .boolean (7 : Int32) [(.int (0 : Int32)), (.int (0 : Int32)), (.int (0 : Int32)), (.int (0 : Int32)), (.int (0 : Int32)), (.int (0 : Int32)), (.int (0 : Int32))] (.int (0 : Int32)) := (Arv.new A48 (by decide)).pad (pad_rep [] (.int (0 : Int32)) 7)
  have pre51 : Go p e below T48 (mkF m 56 #[.val (.int p1), .val (.ref b2), .unset, .unset] [(.int (1 : Int32)), (.int (0 : Int32)), (.ref b48), (.ref b48)]) s₁ (entryFrame m #[(.int p1)] maxLocals) := fun t k => pre49 t (by
      show Steps p.tables e below (T48.setTop (mkF m 53 #[.val (.int p1), .val (.ref b2), .unset, .unset] [(.ref b48)])) t
      refine XS.dup X48.here hx rfl (hb hby at_53) rfl rfl ?_
      show Steps p.tables e below (T48.setTop (mkF m 54 #[.val (.int p1), .val (.ref b2), .unset, .unset] [(.ref b48), (.ref b48)])) t
      refine XS.iconst X48.here hx rfl (hb hby at_54) ?_
      show Steps p.tables e below (T48.setTop (mkF m 55 #[.val (.int p1), .val (.ref b2), .unset, .unset] [(.int (0 : Int32)), (.ref b48), (.ref b48)])) t
      refine XS.iconst X48.here hx rfl (hb hby at_55) ?_
      exact k)
  obtain ⟨cl52, Ar52, q52, Sz52, M52, H52, G52⟩ := V48
  have hin52 : ¬ ((0 : Int32) < 0 ∨ cl52.slots.size ≤ ((0 : Int32)).toNatClampNeg) := inb_of Sz52 ⟨by decide, by decide⟩
  obtain ⟨T52, h52, X52, e52, W52, st52⟩ := stZ X48 hx hZ e48 Ar52 (j := (0 : Int32)) hin52 (g := (mkF m 56 #[.val (.int p1), .val (.ref b2), .unset, .unset] [(.int (1 : Int32)), (.int (0 : Int32)), (.ref b48), (.ref b48)])) rfl rfl (hb hby at_56)
  have pre53 : Go p e below T52 (mkF m 57 #[.val (.int p1), .val (.ref b2), .unset, .unset] [(.ref b48)]) s₁ (entryFrame m #[(.int p1)] maxLocals) := fun t k => pre51 t (st52 t k)
  have O54 : Old Z n0 h52 := O50.wr W52 g_b48
  have Z54 : n0 ≤ h52.size := Nat.le_trans Z50 (Keep.of_wr W52).1
  have V52 : Arv Z h52 b48 k48 .boolean (7 : Int32) [(.int (1 : Int32)), (.int (0 : Int32)), (.int (0 : Int32)), (.int (0 : Int32)), (.int (0 : Int32)), (.int (0 : Int32)), (.int (0 : Int32))] (.int (0 : Int32)) := Arv.set Ar52 q52 Sz52 M52 H52 G52 rfl W52 0 rfl (Nat.le_of_ble_eq_true rfl)
  have N52 := Fr.snoc X52 N44 g_b48
  have pre55 : Go p e below T52 (mkF m 60 #[.val (.int p1), .val (.ref b2), .unset, .unset] [(.int (1 : Int32)), (.int (1 : Int32)), (.ref b48), (.ref b48)]) s₁ (entryFrame m #[(.int p1)] maxLocals) := fun t k => pre53 t (by
      show Steps p.tables e below (T52.setTop (mkF m 57 #[.val (.int p1), .val (.ref b2), .unset, .unset] [(.ref b48)])) t
      refine XS.dup X52.here hx rfl (hb hby at_57) rfl rfl ?_
      show Steps p.tables e below (T52.setTop (mkF m 58 #[.val (.int p1), .val (.ref b2), .unset, .unset] [(.ref b48), (.ref b48)])) t
      refine XS.iconst X52.here hx rfl (hb hby at_58) ?_
      show Steps p.tables e below (T52.setTop (mkF m 59 #[.val (.int p1), .val (.ref b2), .unset, .unset] [(.int (1 : Int32)), (.ref b48), (.ref b48)])) t
      refine XS.iconst X52.here hx rfl (hb hby at_59) ?_
      exact k)
  obtain ⟨cl56, Ar56, q56, Sz56, M56, H56, G56⟩ := V52
  have hin56 : ¬ ((1 : Int32) < 0 ∨ cl56.slots.size ≤ ((1 : Int32)).toNatClampNeg) := inb_of Sz56 ⟨by decide, by decide⟩
  obtain ⟨T56, h56, X56, e56, W56, st56⟩ := stZ X52 hx hZ e52 Ar56 (j := (1 : Int32)) hin56 (g := (mkF m 60 #[.val (.int p1), .val (.ref b2), .unset, .unset] [(.int (1 : Int32)), (.int (1 : Int32)), (.ref b48), (.ref b48)])) rfl rfl (hb hby at_60)
  have pre57 : Go p e below T56 (mkF m 61 #[.val (.int p1), .val (.ref b2), .unset, .unset] [(.ref b48)]) s₁ (entryFrame m #[(.int p1)] maxLocals) := fun t k => pre55 t (st56 t k)
  have O58 : Old Z n0 h56 := O54.wr W56 g_b48
  have Z58 : n0 ≤ h56.size := Nat.le_trans Z54 (Keep.of_wr W56).1
  have V56 : Arv Z h56 b48 k48 .boolean (7 : Int32) [(.int (1 : Int32)), (.int (1 : Int32)), (.int (0 : Int32)), (.int (0 : Int32)), (.int (0 : Int32)), (.int (0 : Int32)), (.int (0 : Int32))] (.int (0 : Int32)) := Arv.set Ar56 q56 Sz56 M56 H56 G56 rfl W56 1 rfl (Nat.le_of_ble_eq_true rfl)
  have N56 := Fr.snoc X56 N52 g_b48
  have pre59 : Go p e below T56 (mkF m 64 #[.val (.int p1), .val (.ref b2), .unset, .unset] [(.int (1 : Int32)), (.int (2 : Int32)), (.ref b48), (.ref b48)]) s₁ (entryFrame m #[(.int p1)] maxLocals) := fun t k => pre57 t (by
      show Steps p.tables e below (T56.setTop (mkF m 61 #[.val (.int p1), .val (.ref b2), .unset, .unset] [(.ref b48)])) t
      refine XS.dup X56.here hx rfl (hb hby at_61) rfl rfl ?_
      show Steps p.tables e below (T56.setTop (mkF m 62 #[.val (.int p1), .val (.ref b2), .unset, .unset] [(.ref b48), (.ref b48)])) t
      refine XS.iconst X56.here hx rfl (hb hby at_62) ?_
      show Steps p.tables e below (T56.setTop (mkF m 63 #[.val (.int p1), .val (.ref b2), .unset, .unset] [(.int (2 : Int32)), (.ref b48), (.ref b48)])) t
      refine XS.iconst X56.here hx rfl (hb hby at_63) ?_
      exact k)
  obtain ⟨cl60, Ar60, q60, Sz60, M60, H60, G60⟩ := V56
  have hin60 : ¬ ((2 : Int32) < 0 ∨ cl60.slots.size ≤ ((2 : Int32)).toNatClampNeg) := inb_of Sz60 ⟨by decide, by decide⟩
  obtain ⟨T60, h60, X60, e60, W60, st60⟩ := stZ X56 hx hZ e56 Ar60 (j := (2 : Int32)) hin60 (g := (mkF m 64 #[.val (.int p1), .val (.ref b2), .unset, .unset] [(.int (1 : Int32)), (.int (2 : Int32)), (.ref b48), (.ref b48)])) rfl rfl (hb hby at_64)
  have pre61 : Go p e below T60 (mkF m 65 #[.val (.int p1), .val (.ref b2), .unset, .unset] [(.ref b48)]) s₁ (entryFrame m #[(.int p1)] maxLocals) := fun t k => pre59 t (st60 t k)
  have O62 : Old Z n0 h60 := O58.wr W60 g_b48
  have Z62 : n0 ≤ h60.size := Nat.le_trans Z58 (Keep.of_wr W60).1
  have V60 : Arv Z h60 b48 k48 .boolean (7 : Int32) [(.int (1 : Int32)), (.int (1 : Int32)), (.int (1 : Int32)), (.int (0 : Int32)), (.int (0 : Int32)), (.int (0 : Int32)), (.int (0 : Int32))] (.int (0 : Int32)) := Arv.set Ar60 q60 Sz60 M60 H60 G60 rfl W60 2 rfl (Nat.le_of_ble_eq_true rfl)
  have N60 := Fr.snoc X60 N56 g_b48
  have pre63 : Go p e below T60 (mkF m 68 #[.val (.int p1), .val (.ref b2), .unset, .unset] [(.int (1 : Int32)), (.int (3 : Int32)), (.ref b48), (.ref b48)]) s₁ (entryFrame m #[(.int p1)] maxLocals) := fun t k => pre61 t (by
      show Steps p.tables e below (T60.setTop (mkF m 65 #[.val (.int p1), .val (.ref b2), .unset, .unset] [(.ref b48)])) t
      refine XS.dup X60.here hx rfl (hb hby at_65) rfl rfl ?_
      show Steps p.tables e below (T60.setTop (mkF m 66 #[.val (.int p1), .val (.ref b2), .unset, .unset] [(.ref b48), (.ref b48)])) t
      refine XS.iconst X60.here hx rfl (hb hby at_66) ?_
      show Steps p.tables e below (T60.setTop (mkF m 67 #[.val (.int p1), .val (.ref b2), .unset, .unset] [(.int (3 : Int32)), (.ref b48), (.ref b48)])) t
      refine XS.iconst X60.here hx rfl (hb hby at_67) ?_
      exact k)
  obtain ⟨cl64, Ar64, q64, Sz64, M64, H64, G64⟩ := V60
  have hin64 : ¬ ((3 : Int32) < 0 ∨ cl64.slots.size ≤ ((3 : Int32)).toNatClampNeg) := inb_of Sz64 ⟨by decide, by decide⟩
  obtain ⟨T64, h64, X64, e64, W64, st64⟩ := stZ X60 hx hZ e60 Ar64 (j := (3 : Int32)) hin64 (g := (mkF m 68 #[.val (.int p1), .val (.ref b2), .unset, .unset] [(.int (1 : Int32)), (.int (3 : Int32)), (.ref b48), (.ref b48)])) rfl rfl (hb hby at_68)
  have pre65 : Go p e below T64 (mkF m 69 #[.val (.int p1), .val (.ref b2), .unset, .unset] [(.ref b48)]) s₁ (entryFrame m #[(.int p1)] maxLocals) := fun t k => pre63 t (st64 t k)
  have O66 : Old Z n0 h64 := O62.wr W64 g_b48
  have Z66 : n0 ≤ h64.size := Nat.le_trans Z62 (Keep.of_wr W64).1
  have V64 : Arv Z h64 b48 k48 .boolean (7 : Int32) [(.int (1 : Int32)), (.int (1 : Int32)), (.int (1 : Int32)), (.int (1 : Int32)), (.int (0 : Int32)), (.int (0 : Int32)), (.int (0 : Int32))] (.int (0 : Int32)) := Arv.set Ar64 q64 Sz64 M64 H64 G64 rfl W64 3 rfl (Nat.le_of_ble_eq_true rfl)
  have N64 := Fr.snoc X64 N60 g_b48
  have pre67 : Go p e below T64 (mkF m 72 #[.val (.int p1), .val (.ref b2), .unset, .unset] [(.int (1 : Int32)), (.int (4 : Int32)), (.ref b48), (.ref b48)]) s₁ (entryFrame m #[(.int p1)] maxLocals) := fun t k => pre65 t (by
      show Steps p.tables e below (T64.setTop (mkF m 69 #[.val (.int p1), .val (.ref b2), .unset, .unset] [(.ref b48)])) t
      refine XS.dup X64.here hx rfl (hb hby at_69) rfl rfl ?_
      show Steps p.tables e below (T64.setTop (mkF m 70 #[.val (.int p1), .val (.ref b2), .unset, .unset] [(.ref b48), (.ref b48)])) t
      refine XS.iconst X64.here hx rfl (hb hby at_70) ?_
      show Steps p.tables e below (T64.setTop (mkF m 71 #[.val (.int p1), .val (.ref b2), .unset, .unset] [(.int (4 : Int32)), (.ref b48), (.ref b48)])) t
      refine XS.iconst X64.here hx rfl (hb hby at_71) ?_
      exact k)
  obtain ⟨cl68, Ar68, q68, Sz68, M68, H68, G68⟩ := V64
  have hin68 : ¬ ((4 : Int32) < 0 ∨ cl68.slots.size ≤ ((4 : Int32)).toNatClampNeg) := inb_of Sz68 ⟨by decide, by decide⟩
  obtain ⟨T68, h68, X68, e68, W68, st68⟩ := stZ X64 hx hZ e64 Ar68 (j := (4 : Int32)) hin68 (g := (mkF m 72 #[.val (.int p1), .val (.ref b2), .unset, .unset] [(.int (1 : Int32)), (.int (4 : Int32)), (.ref b48), (.ref b48)])) rfl rfl (hb hby at_72)
  have pre69 : Go p e below T68 (mkF m 73 #[.val (.int p1), .val (.ref b2), .unset, .unset] [(.ref b48)]) s₁ (entryFrame m #[(.int p1)] maxLocals) := fun t k => pre67 t (st68 t k)
  have O70 : Old Z n0 h68 := O66.wr W68 g_b48
  have Z70 : n0 ≤ h68.size := Nat.le_trans Z66 (Keep.of_wr W68).1
  have V68 : Arv Z h68 b48 k48 .boolean (7 : Int32) [(.int (1 : Int32)), (.int (1 : Int32)), (.int (1 : Int32)), (.int (1 : Int32)), (.int (1 : Int32)), (.int (0 : Int32)), (.int (0 : Int32))] (.int (0 : Int32)) := Arv.set Ar68 q68 Sz68 M68 H68 G68 rfl W68 4 rfl (Nat.le_of_ble_eq_true rfl)
  have N68 := Fr.snoc X68 N64 g_b48
  have pre71 : Go p e below T68 (mkF m 76 #[.val (.int p1), .val (.ref b2), .unset, .unset] [(.int (1 : Int32)), (.int (5 : Int32)), (.ref b48), (.ref b48)]) s₁ (entryFrame m #[(.int p1)] maxLocals) := fun t k => pre69 t (by
      show Steps p.tables e below (T68.setTop (mkF m 73 #[.val (.int p1), .val (.ref b2), .unset, .unset] [(.ref b48)])) t
      refine XS.dup X68.here hx rfl (hb hby at_73) rfl rfl ?_
      show Steps p.tables e below (T68.setTop (mkF m 74 #[.val (.int p1), .val (.ref b2), .unset, .unset] [(.ref b48), (.ref b48)])) t
      refine XS.iconst X68.here hx rfl (hb hby at_74) ?_
      show Steps p.tables e below (T68.setTop (mkF m 75 #[.val (.int p1), .val (.ref b2), .unset, .unset] [(.int (5 : Int32)), (.ref b48), (.ref b48)])) t
      refine XS.iconst X68.here hx rfl (hb hby at_75) ?_
      exact k)
  obtain ⟨cl72, Ar72, q72, Sz72, M72, H72, G72⟩ := V68
  have hin72 : ¬ ((5 : Int32) < 0 ∨ cl72.slots.size ≤ ((5 : Int32)).toNatClampNeg) := inb_of Sz72 ⟨by decide, by decide⟩
  obtain ⟨T72, h72, X72, e72, W72, st72⟩ := stZ X68 hx hZ e68 Ar72 (j := (5 : Int32)) hin72 (g := (mkF m 76 #[.val (.int p1), .val (.ref b2), .unset, .unset] [(.int (1 : Int32)), (.int (5 : Int32)), (.ref b48), (.ref b48)])) rfl rfl (hb hby at_76)
  have pre73 : Go p e below T72 (mkF m 77 #[.val (.int p1), .val (.ref b2), .unset, .unset] [(.ref b48)]) s₁ (entryFrame m #[(.int p1)] maxLocals) := fun t k => pre71 t (st72 t k)
  have O74 : Old Z n0 h72 := O70.wr W72 g_b48
  have Z74 : n0 ≤ h72.size := Nat.le_trans Z70 (Keep.of_wr W72).1
  have V72 : Arv Z h72 b48 k48 .boolean (7 : Int32) [(.int (1 : Int32)), (.int (1 : Int32)), (.int (1 : Int32)), (.int (1 : Int32)), (.int (1 : Int32)), (.int (1 : Int32)), (.int (0 : Int32))] (.int (0 : Int32)) := Arv.set Ar72 q72 Sz72 M72 H72 G72 rfl W72 5 rfl (Nat.le_of_ble_eq_true rfl)
  have N72 := Fr.snoc X72 N68 g_b48
  have pre75 : Go p e below T72 (mkF m 81 #[.val (.int p1), .val (.ref b2), .unset, .unset] [(.int (0 : Int32)), (.int (6 : Int32)), (.ref b48), (.ref b48)]) s₁ (entryFrame m #[(.int p1)] maxLocals) := fun t k => pre73 t (by
      show Steps p.tables e below (T72.setTop (mkF m 77 #[.val (.int p1), .val (.ref b2), .unset, .unset] [(.ref b48)])) t
      refine XS.dup X72.here hx rfl (hb hby at_77) rfl rfl ?_
      show Steps p.tables e below (T72.setTop (mkF m 78 #[.val (.int p1), .val (.ref b2), .unset, .unset] [(.ref b48), (.ref b48)])) t
      refine XS.bipush X72.here hx rfl (hb hby at_78) ?_
      show Steps p.tables e below (T72.setTop (mkF m 80 #[.val (.int p1), .val (.ref b2), .unset, .unset] [(.int (6 : Int32)), (.ref b48), (.ref b48)])) t
      refine XS.iconst X72.here hx rfl (hb hby at_80) ?_
      exact k)
  obtain ⟨cl76, Ar76, q76, Sz76, M76, H76, G76⟩ := V72
  have hin76 : ¬ ((6 : Int32) < 0 ∨ cl76.slots.size ≤ ((6 : Int32)).toNatClampNeg) := inb_of Sz76 ⟨by decide, by decide⟩
  obtain ⟨T76, h76, X76, e76, W76, st76⟩ := stZ X72 hx hZ e72 Ar76 (j := (6 : Int32)) hin76 (g := (mkF m 81 #[.val (.int p1), .val (.ref b2), .unset, .unset] [(.int (0 : Int32)), (.int (6 : Int32)), (.ref b48), (.ref b48)])) rfl rfl (hb hby at_81)
  have pre77 : Go p e below T76 (mkF m 82 #[.val (.int p1), .val (.ref b2), .unset, .unset] [(.ref b48)]) s₁ (entryFrame m #[(.int p1)] maxLocals) := fun t k => pre75 t (st76 t k)
  have O78 : Old Z n0 h76 := O74.wr W76 g_b48
  have Z78 : n0 ≤ h76.size := Nat.le_trans Z74 (Keep.of_wr W76).1
  have V76 : Arv Z h76 b48 k48 .boolean (7 : Int32) [(.int (1 : Int32)), (.int (1 : Int32)), (.int (1 : Int32)), (.int (1 : Int32)), (.int (1 : Int32)), (.int (1 : Int32)), (.int (0 : Int32))] (.int (0 : Int32)) := Arv.set Ar76 q76 Sz76 M76 H76 G76 rfl W76 6 rfl (Nat.le_of_ble_eq_true rfl)
  have N76 := Fr.snoc X76 N72 g_b48
  have pre79 : Go p e below T76 (mkF m 90 #[.val (.int p1), .val (.ref b2), .val (.ref b48), .unset] [(.int ((p1 &&& (2147483647 : Int32)) % (7 : Int32)))]) s₁ (entryFrame m #[(.int p1)] maxLocals) := fun t k => pre77 t (by
      show Steps p.tables e below (T76.setTop (mkF m 82 #[.val (.int p1), .val (.ref b2), .unset, .unset] [(.ref b48)])) t
      refine XS.astoreN X76.here hx rfl (hb hby at_82) rfl rfl (l' := #[.val (.int p1), .val (.ref b2), .val (.ref b48), .unset]) rfl ?_
      show Steps p.tables e below (T76.setTop (mkF m 83 #[.val (.int p1), .val (.ref b2), .val (.ref b48), .unset] [])) t
      refine XS.iloadN X76.here hx rfl (hb hby at_83) rfl ?_
      show Steps p.tables e below (T76.setTop (mkF m 84 #[.val (.int p1), .val (.ref b2), .val (.ref b48), .unset] [(.int p1)])) t
      refine X76.ldcInt hx hown (mvT hZ (hw _ (List.mem_of_getElem? (i := 19) rfl))) (g := (mkF m 84 #[.val (.int p1), .val (.ref b2), .val (.ref b48), .unset] [(.int p1)])) rfl (hb hby at_84) _ ?_
      show Steps p.tables e below (T76.setTop (mkF m 86 #[.val (.int p1), .val (.ref b2), .val (.ref b48), .unset] [(.int (2147483647 : Int32)), (.int p1)])) t
      refine XS.iand X76.here hx rfl (hb hby at_86) rfl ?_
      show Steps p.tables e below (T76.setTop (mkF m 87 #[.val (.int p1), .val (.ref b2), .val (.ref b48), .unset] [(.int (p1 &&& (2147483647 : Int32)))])) t
      refine XS.bipush X76.here hx rfl (hb hby at_87) ?_
      show Steps p.tables e below (T76.setTop (mkF m 89 #[.val (.int p1), .val (.ref b2), .val (.ref b48), .unset] [(.int (7 : Int32)), (.int (p1 &&& (2147483647 : Int32)))])) t
      refine iremM X76 hx rfl (hb hby at_89) rfl (by decide) ?_
      exact k)
  rcases own_m7 p1 with hv80_0 | hv80_1 | hv80_2 | hv80_3 | hv80_4 | hv80_5 | hv80_6
  · have pre81 : Go p e below T76 (mkF m 93 #[.val (.int p1), .val (.ref b2), .val (.ref b48), .val (.int (0 : Int32))] [(.int (0 : Int32)), (.ref b2)]) s₁ (entryFrame m #[(.int p1)] maxLocals) := fun t k => pre79 t (by
        show Steps p.tables e below (T76.setTop (mkF m 90 #[.val (.int p1), .val (.ref b2), .val (.ref b48), .unset] [(.int ((p1 &&& (2147483647 : Int32)) % (7 : Int32)))])) t
        refine XS.istoreN X76.here hx rfl (hb hby at_90) rfl (l' := #[.val (.int p1), .val (.ref b2), .val (.ref b48), .val (.int (0 : Int32))]) (by rw [hv80_0]; rfl) ?_
        show Steps p.tables e below (T76.setTop (mkF m 91 #[.val (.int p1), .val (.ref b2), .val (.ref b48), .val (.int (0 : Int32))] [])) t
        refine XS.aloadN X76.here hx rfl (hb hby at_91) rfl rfl ?_
        show Steps p.tables e below (T76.setTop (mkF m 92 #[.val (.int p1), .val (.ref b2), .val (.ref b48), .val (.int (0 : Int32))] [(.ref b2)])) t
        refine XS.iloadN X76.here hx rfl (hb hby at_92) rfl ?_
        exact k)
    obtain ⟨cl82, Ar82, q82, Sz82, M82, H82, G82⟩ := ((((((((V44.ext Et48).other W52 ne_b2_b48).other W56 ne_b2_b48).other W60 ne_b2_b48).other W64 ne_b2_b48).other W68 ne_b2_b48).other W72 ne_b2_b48).other W76 ne_b2_b48)
    have hin82 : ¬ ((0 : Int32) < 0 ∨ cl82.slots.size ≤ ((0 : Int32)).toNatClampNeg) := inb_of Sz82 ⟨by decide, by decide⟩
    have hat82 : cl82.slots[((0 : Int32)).toNatClampNeg]? = some (.ref w0) := Has.at H82 hin82 rfl
    have pre83 : Go p e below T76 (mkF m 94 #[.val (.int p1), .val (.ref b2), .val (.ref b48), .val (.int (0 : Int32))] [(.ref w0)]) s₁ (entryFrame m #[(.int p1)] maxLocals) := fun t k => pre81 t (by
        show Steps p.tables e below (T76.setTop (mkF m 93 #[.val (.int p1), .val (.ref b2), .val (.ref b48), .val (.int (0 : Int32))] [(.int (0 : Int32)), (.ref b2)])) t
        refine X76.aaload hx (j := (0 : Int32)) (v := (.ref w0)) (by rw [e76]; exact Ar82.1) (State.isArrayOf_alike hZ.alike Ar82.2.1) rfl Ar82.2.2 hin82 hat82 (g := (mkF m 93 #[.val (.int p1), .val (.ref b2), .val (.ref b48), .val (.int (0 : Int32))] [(.int (0 : Int32)), (.ref b2)])) rfl rfl (hb hby at_93) _ ?_
        exact k)
    obtain ⟨cq84, kq84, q84a, q84b, q84c⟩ := isOf hZ e76 (E0.ext O78.2)
    obtain ⟨_, _, ⟨T84, L84, k84, n84⟩, -, X84, ⟨Lc84, hQ84, l84, y84, z84⟩, st84⟩ := X76.virtualBack hx (y := (⟨"com/example/uni_repos/unirepos/mapping/ValueType", "isOrdered", "()Z"⟩ : MethodName)) (z := (⟨"com/example/uni_repos/unirepos/mapping/ValueType", "isOrdered", "()Z"⟩ : MethodName)) hown (mvT hZ (hw _ (List.mem_of_getElem? (i := 20) rfl))) (mvT hZ (hw _ (List.mem_of_getElem? (i := 21) rfl))) (notFace_of_selects (args := #[]) (mvT hZ (hw _ (List.mem_of_getElem? (i := 23) rfl)))) (mvT hZ (hw _ (List.mem_of_getElem? (i := 23) rfl))) (mvT hZ (hw _ (List.mem_of_getElem? (i := 22) rfl))) (by decide) (backOf (W := 0) (rmF l Z a0 hw [] w0 w6 1 h76 n0 Z78 (S6.ext O78.2) (by simp [ordF, d0])) hZ (hw _ (List.mem_of_getElem? (i := 24) rfl)) (hw _ (List.mem_of_getElem? (i := 3) rfl)) (by decide) (by decide)) q84a q84c (g := (mkF m 94 #[.val (.int p1), .val (.ref b2), .val (.ref b48), .val (.int (0 : Int32))] [(.ref w0)])) rfl (by rw [hml]; rfl) (Steps.refl _) (argsL := []) (rest := []) (lenOf pdL_0 rfl) rfl (by show 2 * 0 + _ ≤ _; exact Nat.le_of_eq rfl) (hb hby at_94) (fun _ _ => ⟨rfl, e76, (by decide : 2 + 0 ≤ _), (by decide : 14 + 0 ≤ _)⟩)
    dsimp only [Pt.U, Pt.locs, Pt.cells, Pt.slots] at X84 l84 y84 z84 st84 hQ84
    subst l84 y84 z84
    obtain ⟨rfl, N84q, hq84⟩ := hQ84
    have N84 := Fr.app N76 N84q
    have pre85 : Go p e below T84 (mkF m 97 #[.val (.int p1), .val (.ref b2), .val (.ref b48), .val (.int (0 : Int32))] [(.int (1 : Int32))]) s₁ (entryFrame m #[(.int p1)] maxLocals) := fun t k => pre83 t (st84.trans k)
    have e84 : T84.heap = h76 := hq84
    have pre86 : Go p e below T84 (mkF m 99 #[.val (.int p1), .val (.ref b2), .val (.ref b48), .val (.int (0 : Int32))] [(.int (0 : Int32)), (.ref b48), (.int (1 : Int32))]) s₁ (entryFrame m #[(.int p1)] maxLocals) := fun t k => pre85 t (by
        show Steps p.tables e below (T84.setTop (mkF m 97 #[.val (.int p1), .val (.ref b2), .val (.ref b48), .val (.int (0 : Int32))] [(.int (1 : Int32))])) t
        refine XS.aloadN X84.here hx rfl (hb hby at_97) rfl rfl ?_
        show Steps p.tables e below (T84.setTop (mkF m 98 #[.val (.int p1), .val (.ref b2), .val (.ref b48), .val (.int (0 : Int32))] [(.ref b48), (.int (1 : Int32))])) t
        refine XS.iloadN X84.here hx rfl (hb hby at_98) rfl ?_
        exact k)
    obtain ⟨cl87, Ar87, q87, Sz87, M87, H87, G87⟩ := V76
    have hin87 : ¬ ((0 : Int32) < 0 ∨ cl87.slots.size ≤ ((0 : Int32)).toNatClampNeg) := inb_of Sz87 ⟨by decide, by decide⟩
    have hat87 : cl87.slots[((0 : Int32)).toNatClampNeg]? = some (.int (1 : Int32)) := Has.at H87 hin87 rfl
    have pre88 : Go p e below T84 (mkF m 100 #[.val (.int p1), .val (.ref b2), .val (.ref b48), .val (.int (0 : Int32))] [(.int (1 : Int32)), (.int (1 : Int32))]) s₁ (entryFrame m #[(.int p1)] maxLocals) := fun t k => pre86 t (by
        show Steps p.tables e below (T84.setTop (mkF m 99 #[.val (.int p1), .val (.ref b2), .val (.ref b48), .val (.int (0 : Int32))] [(.int (0 : Int32)), (.ref b48), (.int (1 : Int32))])) t
        refine X84.baloadBooleans hx (j := (0 : Int32)) (v := (.int (1 : Int32))) (by rw [e84]; exact Ar87.1) (State.isArrayOf_alike hZ.alike Ar87.2.1) Ar87.2.2 hin87 hat87 (g := (mkF m 99 #[.val (.int p1), .val (.ref b2), .val (.ref b48), .val (.int (0 : Int32))] [(.int (0 : Int32)), (.ref b48), (.int (1 : Int32))])) rfl rfl (hb hby at_99) _ ?_
        exact k)
    have pre89 : Go p e below T84 (mkF m 103 #[.val (.int p1), .val (.ref b2), .val (.ref b48), .val (.int (0 : Int32))] []) s₁ (entryFrame m #[(.int p1)] maxLocals) := fun t k => pre88 t (XS.icmpNo X84.here hx rfl (hb hby at_100) rfl (teq (by decide : (1 : Int32) = (1 : Int32))).2 k)
    have pre90 : Go p e below T84 (mkF m 108 #[.val (.int p1), .val (.ref b2), .val (.ref b48), .val (.int (0 : Int32))] [(.int (1 : Int32))]) s₁ (entryFrame m #[(.int p1)] maxLocals) := fun t k => pre89 t (by
        show Steps p.tables e below (T84.setTop (mkF m 103 #[.val (.int p1), .val (.ref b2), .val (.ref b48), .val (.int (0 : Int32))] [])) t
        refine XS.iconst X84.here hx rfl (hb hby at_103) ?_
        show Steps p.tables e below (T84.setTop (mkF m 104 #[.val (.int p1), .val (.ref b2), .val (.ref b48), .val (.int (0 : Int32))] [(.int (1 : Int32))])) t
        refine XS.goto X84.here hx rfl (pc0 := 104) (pc' := 108) rfl (hb hby at_104) (by decide) (by decide) ?_
        exact k)
    have hnr : Value.int (nar .boolean (1 : Int32)) = (.int (1 : Int32)) := by rfl
    obtain ⟨fs, hr, hrun, hended, hW, hsame⟩ := X84.leave (v := some (.int (1 : Int32))) (fun h => by rw [Bd.returns] at h; cases h)
    refine ⟨_, _, pre90 _ (retN X84 hx (t := .boolean) Bd.returns (by simp) (hb hby at_108) (hnr ▸ hr)), hrun, hended, _, _, rfl, ?_, ⟨_, rfl⟩, hW, hsame.mono (by decide) (by decide)⟩
    show QL Z p1 w0 w1 w2 w3 w4 w5 w6 h0 n0 _ T84.heap _
    rw [e84]
    exact ⟨rfl, N84⟩
  · have pre91 : Go p e below T76 (mkF m 93 #[.val (.int p1), .val (.ref b2), .val (.ref b48), .val (.int (1 : Int32))] [(.int (1 : Int32)), (.ref b2)]) s₁ (entryFrame m #[(.int p1)] maxLocals) := fun t k => pre79 t (by
        show Steps p.tables e below (T76.setTop (mkF m 90 #[.val (.int p1), .val (.ref b2), .val (.ref b48), .unset] [(.int ((p1 &&& (2147483647 : Int32)) % (7 : Int32)))])) t
        refine XS.istoreN X76.here hx rfl (hb hby at_90) rfl (l' := #[.val (.int p1), .val (.ref b2), .val (.ref b48), .val (.int (1 : Int32))]) (by rw [hv80_1]; rfl) ?_
        show Steps p.tables e below (T76.setTop (mkF m 91 #[.val (.int p1), .val (.ref b2), .val (.ref b48), .val (.int (1 : Int32))] [])) t
        refine XS.aloadN X76.here hx rfl (hb hby at_91) rfl rfl ?_
        show Steps p.tables e below (T76.setTop (mkF m 92 #[.val (.int p1), .val (.ref b2), .val (.ref b48), .val (.int (1 : Int32))] [(.ref b2)])) t
        refine XS.iloadN X76.here hx rfl (hb hby at_92) rfl ?_
        exact k)
    obtain ⟨cl92, Ar92, q92, Sz92, M92, H92, G92⟩ := ((((((((V44.ext Et48).other W52 ne_b2_b48).other W56 ne_b2_b48).other W60 ne_b2_b48).other W64 ne_b2_b48).other W68 ne_b2_b48).other W72 ne_b2_b48).other W76 ne_b2_b48)
    have hin92 : ¬ ((1 : Int32) < 0 ∨ cl92.slots.size ≤ ((1 : Int32)).toNatClampNeg) := inb_of Sz92 ⟨by decide, by decide⟩
    have hat92 : cl92.slots[((1 : Int32)).toNatClampNeg]? = some (.ref w1) := Has.at H92 hin92 rfl
    have pre93 : Go p e below T76 (mkF m 94 #[.val (.int p1), .val (.ref b2), .val (.ref b48), .val (.int (1 : Int32))] [(.ref w1)]) s₁ (entryFrame m #[(.int p1)] maxLocals) := fun t k => pre91 t (by
        show Steps p.tables e below (T76.setTop (mkF m 93 #[.val (.int p1), .val (.ref b2), .val (.ref b48), .val (.int (1 : Int32))] [(.int (1 : Int32)), (.ref b2)])) t
        refine X76.aaload hx (j := (1 : Int32)) (v := (.ref w1)) (by rw [e76]; exact Ar92.1) (State.isArrayOf_alike hZ.alike Ar92.2.1) rfl Ar92.2.2 hin92 hat92 (g := (mkF m 93 #[.val (.int p1), .val (.ref b2), .val (.ref b48), .val (.int (1 : Int32))] [(.int (1 : Int32)), (.ref b2)])) rfl rfl (hb hby at_93) _ ?_
        exact k)
    obtain ⟨cq94, kq94, q94a, q94b, q94c⟩ := isOf hZ e76 (E1.ext O78.2)
    obtain ⟨_, _, ⟨T94, L94, k94, n94⟩, -, X94, ⟨Lc94, hQ94, l94, y94, z94⟩, st94⟩ := X76.virtualBack hx (y := (⟨"com/example/uni_repos/unirepos/mapping/ValueType", "isOrdered", "()Z"⟩ : MethodName)) (z := (⟨"com/example/uni_repos/unirepos/mapping/ValueType", "isOrdered", "()Z"⟩ : MethodName)) hown (mvT hZ (hw _ (List.mem_of_getElem? (i := 20) rfl))) (mvT hZ (hw _ (List.mem_of_getElem? (i := 21) rfl))) (notFace_of_selects (args := #[]) (mvT hZ (hw _ (List.mem_of_getElem? (i := 23) rfl)))) (mvT hZ (hw _ (List.mem_of_getElem? (i := 23) rfl))) (mvT hZ (hw _ (List.mem_of_getElem? (i := 22) rfl))) (by decide) (backOf (W := 0) (rmF l Z a0 hw [] w1 w6 1 h76 n0 Z78 (S6.ext O78.2) (by simp [ordF, d1])) hZ (hw _ (List.mem_of_getElem? (i := 24) rfl)) (hw _ (List.mem_of_getElem? (i := 3) rfl)) (by decide) (by decide)) q94a q94c (g := (mkF m 94 #[.val (.int p1), .val (.ref b2), .val (.ref b48), .val (.int (1 : Int32))] [(.ref w1)])) rfl (by rw [hml]; rfl) (Steps.refl _) (argsL := []) (rest := []) (lenOf pdL_0 rfl) rfl (by show 2 * 0 + _ ≤ _; exact Nat.le_of_eq rfl) (hb hby at_94) (fun _ _ => ⟨rfl, e76, (by decide : 2 + 0 ≤ _), (by decide : 14 + 0 ≤ _)⟩)
    dsimp only [Pt.U, Pt.locs, Pt.cells, Pt.slots] at X94 l94 y94 z94 st94 hQ94
    subst l94 y94 z94
    obtain ⟨rfl, N94q, hq94⟩ := hQ94
    have N94 := Fr.app N76 N94q
    have pre95 : Go p e below T94 (mkF m 97 #[.val (.int p1), .val (.ref b2), .val (.ref b48), .val (.int (1 : Int32))] [(.int (1 : Int32))]) s₁ (entryFrame m #[(.int p1)] maxLocals) := fun t k => pre93 t (st94.trans k)
    have e94 : T94.heap = h76 := hq94
    have pre96 : Go p e below T94 (mkF m 99 #[.val (.int p1), .val (.ref b2), .val (.ref b48), .val (.int (1 : Int32))] [(.int (1 : Int32)), (.ref b48), (.int (1 : Int32))]) s₁ (entryFrame m #[(.int p1)] maxLocals) := fun t k => pre95 t (by
        show Steps p.tables e below (T94.setTop (mkF m 97 #[.val (.int p1), .val (.ref b2), .val (.ref b48), .val (.int (1 : Int32))] [(.int (1 : Int32))])) t
        refine XS.aloadN X94.here hx rfl (hb hby at_97) rfl rfl ?_
        show Steps p.tables e below (T94.setTop (mkF m 98 #[.val (.int p1), .val (.ref b2), .val (.ref b48), .val (.int (1 : Int32))] [(.ref b48), (.int (1 : Int32))])) t
        refine XS.iloadN X94.here hx rfl (hb hby at_98) rfl ?_
        exact k)
    obtain ⟨cl97, Ar97, q97, Sz97, M97, H97, G97⟩ := V76
    have hin97 : ¬ ((1 : Int32) < 0 ∨ cl97.slots.size ≤ ((1 : Int32)).toNatClampNeg) := inb_of Sz97 ⟨by decide, by decide⟩
    have hat97 : cl97.slots[((1 : Int32)).toNatClampNeg]? = some (.int (1 : Int32)) := Has.at H97 hin97 rfl
    have pre98 : Go p e below T94 (mkF m 100 #[.val (.int p1), .val (.ref b2), .val (.ref b48), .val (.int (1 : Int32))] [(.int (1 : Int32)), (.int (1 : Int32))]) s₁ (entryFrame m #[(.int p1)] maxLocals) := fun t k => pre96 t (by
        show Steps p.tables e below (T94.setTop (mkF m 99 #[.val (.int p1), .val (.ref b2), .val (.ref b48), .val (.int (1 : Int32))] [(.int (1 : Int32)), (.ref b48), (.int (1 : Int32))])) t
        refine X94.baloadBooleans hx (j := (1 : Int32)) (v := (.int (1 : Int32))) (by rw [e94]; exact Ar97.1) (State.isArrayOf_alike hZ.alike Ar97.2.1) Ar97.2.2 hin97 hat97 (g := (mkF m 99 #[.val (.int p1), .val (.ref b2), .val (.ref b48), .val (.int (1 : Int32))] [(.int (1 : Int32)), (.ref b48), (.int (1 : Int32))])) rfl rfl (hb hby at_99) _ ?_
        exact k)
    have pre99 : Go p e below T94 (mkF m 103 #[.val (.int p1), .val (.ref b2), .val (.ref b48), .val (.int (1 : Int32))] []) s₁ (entryFrame m #[(.int p1)] maxLocals) := fun t k => pre98 t (XS.icmpNo X94.here hx rfl (hb hby at_100) rfl (teq (by decide : (1 : Int32) = (1 : Int32))).2 k)
    have pre100 : Go p e below T94 (mkF m 108 #[.val (.int p1), .val (.ref b2), .val (.ref b48), .val (.int (1 : Int32))] [(.int (1 : Int32))]) s₁ (entryFrame m #[(.int p1)] maxLocals) := fun t k => pre99 t (by
        show Steps p.tables e below (T94.setTop (mkF m 103 #[.val (.int p1), .val (.ref b2), .val (.ref b48), .val (.int (1 : Int32))] [])) t
        refine XS.iconst X94.here hx rfl (hb hby at_103) ?_
        show Steps p.tables e below (T94.setTop (mkF m 104 #[.val (.int p1), .val (.ref b2), .val (.ref b48), .val (.int (1 : Int32))] [(.int (1 : Int32))])) t
        refine XS.goto X94.here hx rfl (pc0 := 104) (pc' := 108) rfl (hb hby at_104) (by decide) (by decide) ?_
        exact k)
    have hnr : Value.int (nar .boolean (1 : Int32)) = (.int (1 : Int32)) := by rfl
    obtain ⟨fs, hr, hrun, hended, hW, hsame⟩ := X94.leave (v := some (.int (1 : Int32))) (fun h => by rw [Bd.returns] at h; cases h)
    refine ⟨_, _, pre100 _ (retN X94 hx (t := .boolean) Bd.returns (by simp) (hb hby at_108) (hnr ▸ hr)), hrun, hended, _, _, rfl, ?_, ⟨_, rfl⟩, hW, hsame.mono (by decide) (by decide)⟩
    show QL Z p1 w0 w1 w2 w3 w4 w5 w6 h0 n0 _ T94.heap _
    rw [e94]
    exact ⟨rfl, N94⟩
  · have pre101 : Go p e below T76 (mkF m 93 #[.val (.int p1), .val (.ref b2), .val (.ref b48), .val (.int (2 : Int32))] [(.int (2 : Int32)), (.ref b2)]) s₁ (entryFrame m #[(.int p1)] maxLocals) := fun t k => pre79 t (by
        show Steps p.tables e below (T76.setTop (mkF m 90 #[.val (.int p1), .val (.ref b2), .val (.ref b48), .unset] [(.int ((p1 &&& (2147483647 : Int32)) % (7 : Int32)))])) t
        refine XS.istoreN X76.here hx rfl (hb hby at_90) rfl (l' := #[.val (.int p1), .val (.ref b2), .val (.ref b48), .val (.int (2 : Int32))]) (by rw [hv80_2]; rfl) ?_
        show Steps p.tables e below (T76.setTop (mkF m 91 #[.val (.int p1), .val (.ref b2), .val (.ref b48), .val (.int (2 : Int32))] [])) t
        refine XS.aloadN X76.here hx rfl (hb hby at_91) rfl rfl ?_
        show Steps p.tables e below (T76.setTop (mkF m 92 #[.val (.int p1), .val (.ref b2), .val (.ref b48), .val (.int (2 : Int32))] [(.ref b2)])) t
        refine XS.iloadN X76.here hx rfl (hb hby at_92) rfl ?_
        exact k)
    obtain ⟨cl102, Ar102, q102, Sz102, M102, H102, G102⟩ := ((((((((V44.ext Et48).other W52 ne_b2_b48).other W56 ne_b2_b48).other W60 ne_b2_b48).other W64 ne_b2_b48).other W68 ne_b2_b48).other W72 ne_b2_b48).other W76 ne_b2_b48)
    have hin102 : ¬ ((2 : Int32) < 0 ∨ cl102.slots.size ≤ ((2 : Int32)).toNatClampNeg) := inb_of Sz102 ⟨by decide, by decide⟩
    have hat102 : cl102.slots[((2 : Int32)).toNatClampNeg]? = some (.ref w2) := Has.at H102 hin102 rfl
    have pre103 : Go p e below T76 (mkF m 94 #[.val (.int p1), .val (.ref b2), .val (.ref b48), .val (.int (2 : Int32))] [(.ref w2)]) s₁ (entryFrame m #[(.int p1)] maxLocals) := fun t k => pre101 t (by
        show Steps p.tables e below (T76.setTop (mkF m 93 #[.val (.int p1), .val (.ref b2), .val (.ref b48), .val (.int (2 : Int32))] [(.int (2 : Int32)), (.ref b2)])) t
        refine X76.aaload hx (j := (2 : Int32)) (v := (.ref w2)) (by rw [e76]; exact Ar102.1) (State.isArrayOf_alike hZ.alike Ar102.2.1) rfl Ar102.2.2 hin102 hat102 (g := (mkF m 93 #[.val (.int p1), .val (.ref b2), .val (.ref b48), .val (.int (2 : Int32))] [(.int (2 : Int32)), (.ref b2)])) rfl rfl (hb hby at_93) _ ?_
        exact k)
    obtain ⟨cq104, kq104, q104a, q104b, q104c⟩ := isOf hZ e76 (E2.ext O78.2)
    obtain ⟨_, _, ⟨T104, L104, k104, n104⟩, -, X104, ⟨Lc104, hQ104, l104, y104, z104⟩, st104⟩ := X76.virtualBack hx (y := (⟨"com/example/uni_repos/unirepos/mapping/ValueType", "isOrdered", "()Z"⟩ : MethodName)) (z := (⟨"com/example/uni_repos/unirepos/mapping/ValueType", "isOrdered", "()Z"⟩ : MethodName)) hown (mvT hZ (hw _ (List.mem_of_getElem? (i := 20) rfl))) (mvT hZ (hw _ (List.mem_of_getElem? (i := 21) rfl))) (notFace_of_selects (args := #[]) (mvT hZ (hw _ (List.mem_of_getElem? (i := 23) rfl)))) (mvT hZ (hw _ (List.mem_of_getElem? (i := 23) rfl))) (mvT hZ (hw _ (List.mem_of_getElem? (i := 22) rfl))) (by decide) (backOf (W := 0) (rmF l Z a0 hw [] w2 w6 1 h76 n0 Z78 (S6.ext O78.2) (by simp [ordF, d2])) hZ (hw _ (List.mem_of_getElem? (i := 24) rfl)) (hw _ (List.mem_of_getElem? (i := 3) rfl)) (by decide) (by decide)) q104a q104c (g := (mkF m 94 #[.val (.int p1), .val (.ref b2), .val (.ref b48), .val (.int (2 : Int32))] [(.ref w2)])) rfl (by rw [hml]; rfl) (Steps.refl _) (argsL := []) (rest := []) (lenOf pdL_0 rfl) rfl (by show 2 * 0 + _ ≤ _; exact Nat.le_of_eq rfl) (hb hby at_94) (fun _ _ => ⟨rfl, e76, (by decide : 2 + 0 ≤ _), (by decide : 14 + 0 ≤ _)⟩)
    dsimp only [Pt.U, Pt.locs, Pt.cells, Pt.slots] at X104 l104 y104 z104 st104 hQ104
    subst l104 y104 z104
    obtain ⟨rfl, N104q, hq104⟩ := hQ104
    have N104 := Fr.app N76 N104q
    have pre105 : Go p e below T104 (mkF m 97 #[.val (.int p1), .val (.ref b2), .val (.ref b48), .val (.int (2 : Int32))] [(.int (1 : Int32))]) s₁ (entryFrame m #[(.int p1)] maxLocals) := fun t k => pre103 t (st104.trans k)
    have e104 : T104.heap = h76 := hq104
    have pre106 : Go p e below T104 (mkF m 99 #[.val (.int p1), .val (.ref b2), .val (.ref b48), .val (.int (2 : Int32))] [(.int (2 : Int32)), (.ref b48), (.int (1 : Int32))]) s₁ (entryFrame m #[(.int p1)] maxLocals) := fun t k => pre105 t (by
        show Steps p.tables e below (T104.setTop (mkF m 97 #[.val (.int p1), .val (.ref b2), .val (.ref b48), .val (.int (2 : Int32))] [(.int (1 : Int32))])) t
        refine XS.aloadN X104.here hx rfl (hb hby at_97) rfl rfl ?_
        show Steps p.tables e below (T104.setTop (mkF m 98 #[.val (.int p1), .val (.ref b2), .val (.ref b48), .val (.int (2 : Int32))] [(.ref b48), (.int (1 : Int32))])) t
        refine XS.iloadN X104.here hx rfl (hb hby at_98) rfl ?_
        exact k)
    obtain ⟨cl107, Ar107, q107, Sz107, M107, H107, G107⟩ := V76
    have hin107 : ¬ ((2 : Int32) < 0 ∨ cl107.slots.size ≤ ((2 : Int32)).toNatClampNeg) := inb_of Sz107 ⟨by decide, by decide⟩
    have hat107 : cl107.slots[((2 : Int32)).toNatClampNeg]? = some (.int (1 : Int32)) := Has.at H107 hin107 rfl
    have pre108 : Go p e below T104 (mkF m 100 #[.val (.int p1), .val (.ref b2), .val (.ref b48), .val (.int (2 : Int32))] [(.int (1 : Int32)), (.int (1 : Int32))]) s₁ (entryFrame m #[(.int p1)] maxLocals) := fun t k => pre106 t (by
        show Steps p.tables e below (T104.setTop (mkF m 99 #[.val (.int p1), .val (.ref b2), .val (.ref b48), .val (.int (2 : Int32))] [(.int (2 : Int32)), (.ref b48), (.int (1 : Int32))])) t
        refine X104.baloadBooleans hx (j := (2 : Int32)) (v := (.int (1 : Int32))) (by rw [e104]; exact Ar107.1) (State.isArrayOf_alike hZ.alike Ar107.2.1) Ar107.2.2 hin107 hat107 (g := (mkF m 99 #[.val (.int p1), .val (.ref b2), .val (.ref b48), .val (.int (2 : Int32))] [(.int (2 : Int32)), (.ref b48), (.int (1 : Int32))])) rfl rfl (hb hby at_99) _ ?_
        exact k)
    have pre109 : Go p e below T104 (mkF m 103 #[.val (.int p1), .val (.ref b2), .val (.ref b48), .val (.int (2 : Int32))] []) s₁ (entryFrame m #[(.int p1)] maxLocals) := fun t k => pre108 t (XS.icmpNo X104.here hx rfl (hb hby at_100) rfl (teq (by decide : (1 : Int32) = (1 : Int32))).2 k)
    have pre110 : Go p e below T104 (mkF m 108 #[.val (.int p1), .val (.ref b2), .val (.ref b48), .val (.int (2 : Int32))] [(.int (1 : Int32))]) s₁ (entryFrame m #[(.int p1)] maxLocals) := fun t k => pre109 t (by
        show Steps p.tables e below (T104.setTop (mkF m 103 #[.val (.int p1), .val (.ref b2), .val (.ref b48), .val (.int (2 : Int32))] [])) t
        refine XS.iconst X104.here hx rfl (hb hby at_103) ?_
        show Steps p.tables e below (T104.setTop (mkF m 104 #[.val (.int p1), .val (.ref b2), .val (.ref b48), .val (.int (2 : Int32))] [(.int (1 : Int32))])) t
        refine XS.goto X104.here hx rfl (pc0 := 104) (pc' := 108) rfl (hb hby at_104) (by decide) (by decide) ?_
        exact k)
    have hnr : Value.int (nar .boolean (1 : Int32)) = (.int (1 : Int32)) := by rfl
    obtain ⟨fs, hr, hrun, hended, hW, hsame⟩ := X104.leave (v := some (.int (1 : Int32))) (fun h => by rw [Bd.returns] at h; cases h)
    refine ⟨_, _, pre110 _ (retN X104 hx (t := .boolean) Bd.returns (by simp) (hb hby at_108) (hnr ▸ hr)), hrun, hended, _, _, rfl, ?_, ⟨_, rfl⟩, hW, hsame.mono (by decide) (by decide)⟩
    show QL Z p1 w0 w1 w2 w3 w4 w5 w6 h0 n0 _ T104.heap _
    rw [e104]
    exact ⟨rfl, N104⟩
  · have pre111 : Go p e below T76 (mkF m 93 #[.val (.int p1), .val (.ref b2), .val (.ref b48), .val (.int (3 : Int32))] [(.int (3 : Int32)), (.ref b2)]) s₁ (entryFrame m #[(.int p1)] maxLocals) := fun t k => pre79 t (by
        show Steps p.tables e below (T76.setTop (mkF m 90 #[.val (.int p1), .val (.ref b2), .val (.ref b48), .unset] [(.int ((p1 &&& (2147483647 : Int32)) % (7 : Int32)))])) t
        refine XS.istoreN X76.here hx rfl (hb hby at_90) rfl (l' := #[.val (.int p1), .val (.ref b2), .val (.ref b48), .val (.int (3 : Int32))]) (by rw [hv80_3]; rfl) ?_
        show Steps p.tables e below (T76.setTop (mkF m 91 #[.val (.int p1), .val (.ref b2), .val (.ref b48), .val (.int (3 : Int32))] [])) t
        refine XS.aloadN X76.here hx rfl (hb hby at_91) rfl rfl ?_
        show Steps p.tables e below (T76.setTop (mkF m 92 #[.val (.int p1), .val (.ref b2), .val (.ref b48), .val (.int (3 : Int32))] [(.ref b2)])) t
        refine XS.iloadN X76.here hx rfl (hb hby at_92) rfl ?_
        exact k)
    obtain ⟨cl112, Ar112, q112, Sz112, M112, H112, G112⟩ := ((((((((V44.ext Et48).other W52 ne_b2_b48).other W56 ne_b2_b48).other W60 ne_b2_b48).other W64 ne_b2_b48).other W68 ne_b2_b48).other W72 ne_b2_b48).other W76 ne_b2_b48)
    have hin112 : ¬ ((3 : Int32) < 0 ∨ cl112.slots.size ≤ ((3 : Int32)).toNatClampNeg) := inb_of Sz112 ⟨by decide, by decide⟩
    have hat112 : cl112.slots[((3 : Int32)).toNatClampNeg]? = some (.ref w3) := Has.at H112 hin112 rfl
    have pre113 : Go p e below T76 (mkF m 94 #[.val (.int p1), .val (.ref b2), .val (.ref b48), .val (.int (3 : Int32))] [(.ref w3)]) s₁ (entryFrame m #[(.int p1)] maxLocals) := fun t k => pre111 t (by
        show Steps p.tables e below (T76.setTop (mkF m 93 #[.val (.int p1), .val (.ref b2), .val (.ref b48), .val (.int (3 : Int32))] [(.int (3 : Int32)), (.ref b2)])) t
        refine X76.aaload hx (j := (3 : Int32)) (v := (.ref w3)) (by rw [e76]; exact Ar112.1) (State.isArrayOf_alike hZ.alike Ar112.2.1) rfl Ar112.2.2 hin112 hat112 (g := (mkF m 93 #[.val (.int p1), .val (.ref b2), .val (.ref b48), .val (.int (3 : Int32))] [(.int (3 : Int32)), (.ref b2)])) rfl rfl (hb hby at_93) _ ?_
        exact k)
    obtain ⟨cq114, kq114, q114a, q114b, q114c⟩ := isOf hZ e76 (E3.ext O78.2)
    obtain ⟨_, _, ⟨T114, L114, k114, n114⟩, -, X114, ⟨Lc114, hQ114, l114, y114, z114⟩, st114⟩ := X76.virtualBack hx (y := (⟨"com/example/uni_repos/unirepos/mapping/ValueType", "isOrdered", "()Z"⟩ : MethodName)) (z := (⟨"com/example/uni_repos/unirepos/mapping/ValueType", "isOrdered", "()Z"⟩ : MethodName)) hown (mvT hZ (hw _ (List.mem_of_getElem? (i := 20) rfl))) (mvT hZ (hw _ (List.mem_of_getElem? (i := 21) rfl))) (notFace_of_selects (args := #[]) (mvT hZ (hw _ (List.mem_of_getElem? (i := 23) rfl)))) (mvT hZ (hw _ (List.mem_of_getElem? (i := 23) rfl))) (mvT hZ (hw _ (List.mem_of_getElem? (i := 22) rfl))) (by decide) (backOf (W := 0) (rmF l Z a0 hw [] w3 w6 1 h76 n0 Z78 (S6.ext O78.2) (by simp [ordF, d3])) hZ (hw _ (List.mem_of_getElem? (i := 24) rfl)) (hw _ (List.mem_of_getElem? (i := 3) rfl)) (by decide) (by decide)) q114a q114c (g := (mkF m 94 #[.val (.int p1), .val (.ref b2), .val (.ref b48), .val (.int (3 : Int32))] [(.ref w3)])) rfl (by rw [hml]; rfl) (Steps.refl _) (argsL := []) (rest := []) (lenOf pdL_0 rfl) rfl (by show 2 * 0 + _ ≤ _; exact Nat.le_of_eq rfl) (hb hby at_94) (fun _ _ => ⟨rfl, e76, (by decide : 2 + 0 ≤ _), (by decide : 14 + 0 ≤ _)⟩)
    dsimp only [Pt.U, Pt.locs, Pt.cells, Pt.slots] at X114 l114 y114 z114 st114 hQ114
    subst l114 y114 z114
    obtain ⟨rfl, N114q, hq114⟩ := hQ114
    have N114 := Fr.app N76 N114q
    have pre115 : Go p e below T114 (mkF m 97 #[.val (.int p1), .val (.ref b2), .val (.ref b48), .val (.int (3 : Int32))] [(.int (1 : Int32))]) s₁ (entryFrame m #[(.int p1)] maxLocals) := fun t k => pre113 t (st114.trans k)
    have e114 : T114.heap = h76 := hq114
    have pre116 : Go p e below T114 (mkF m 99 #[.val (.int p1), .val (.ref b2), .val (.ref b48), .val (.int (3 : Int32))] [(.int (3 : Int32)), (.ref b48), (.int (1 : Int32))]) s₁ (entryFrame m #[(.int p1)] maxLocals) := fun t k => pre115 t (by
        show Steps p.tables e below (T114.setTop (mkF m 97 #[.val (.int p1), .val (.ref b2), .val (.ref b48), .val (.int (3 : Int32))] [(.int (1 : Int32))])) t
        refine XS.aloadN X114.here hx rfl (hb hby at_97) rfl rfl ?_
        show Steps p.tables e below (T114.setTop (mkF m 98 #[.val (.int p1), .val (.ref b2), .val (.ref b48), .val (.int (3 : Int32))] [(.ref b48), (.int (1 : Int32))])) t
        refine XS.iloadN X114.here hx rfl (hb hby at_98) rfl ?_
        exact k)
    obtain ⟨cl117, Ar117, q117, Sz117, M117, H117, G117⟩ := V76
    have hin117 : ¬ ((3 : Int32) < 0 ∨ cl117.slots.size ≤ ((3 : Int32)).toNatClampNeg) := inb_of Sz117 ⟨by decide, by decide⟩
    have hat117 : cl117.slots[((3 : Int32)).toNatClampNeg]? = some (.int (1 : Int32)) := Has.at H117 hin117 rfl
    have pre118 : Go p e below T114 (mkF m 100 #[.val (.int p1), .val (.ref b2), .val (.ref b48), .val (.int (3 : Int32))] [(.int (1 : Int32)), (.int (1 : Int32))]) s₁ (entryFrame m #[(.int p1)] maxLocals) := fun t k => pre116 t (by
        show Steps p.tables e below (T114.setTop (mkF m 99 #[.val (.int p1), .val (.ref b2), .val (.ref b48), .val (.int (3 : Int32))] [(.int (3 : Int32)), (.ref b48), (.int (1 : Int32))])) t
        refine X114.baloadBooleans hx (j := (3 : Int32)) (v := (.int (1 : Int32))) (by rw [e114]; exact Ar117.1) (State.isArrayOf_alike hZ.alike Ar117.2.1) Ar117.2.2 hin117 hat117 (g := (mkF m 99 #[.val (.int p1), .val (.ref b2), .val (.ref b48), .val (.int (3 : Int32))] [(.int (3 : Int32)), (.ref b48), (.int (1 : Int32))])) rfl rfl (hb hby at_99) _ ?_
        exact k)
    have pre119 : Go p e below T114 (mkF m 103 #[.val (.int p1), .val (.ref b2), .val (.ref b48), .val (.int (3 : Int32))] []) s₁ (entryFrame m #[(.int p1)] maxLocals) := fun t k => pre118 t (XS.icmpNo X114.here hx rfl (hb hby at_100) rfl (teq (by decide : (1 : Int32) = (1 : Int32))).2 k)
    have pre120 : Go p e below T114 (mkF m 108 #[.val (.int p1), .val (.ref b2), .val (.ref b48), .val (.int (3 : Int32))] [(.int (1 : Int32))]) s₁ (entryFrame m #[(.int p1)] maxLocals) := fun t k => pre119 t (by
        show Steps p.tables e below (T114.setTop (mkF m 103 #[.val (.int p1), .val (.ref b2), .val (.ref b48), .val (.int (3 : Int32))] [])) t
        refine XS.iconst X114.here hx rfl (hb hby at_103) ?_
        show Steps p.tables e below (T114.setTop (mkF m 104 #[.val (.int p1), .val (.ref b2), .val (.ref b48), .val (.int (3 : Int32))] [(.int (1 : Int32))])) t
        refine XS.goto X114.here hx rfl (pc0 := 104) (pc' := 108) rfl (hb hby at_104) (by decide) (by decide) ?_
        exact k)
    have hnr : Value.int (nar .boolean (1 : Int32)) = (.int (1 : Int32)) := by rfl
    obtain ⟨fs, hr, hrun, hended, hW, hsame⟩ := X114.leave (v := some (.int (1 : Int32))) (fun h => by rw [Bd.returns] at h; cases h)
    refine ⟨_, _, pre120 _ (retN X114 hx (t := .boolean) Bd.returns (by simp) (hb hby at_108) (hnr ▸ hr)), hrun, hended, _, _, rfl, ?_, ⟨_, rfl⟩, hW, hsame.mono (by decide) (by decide)⟩
    show QL Z p1 w0 w1 w2 w3 w4 w5 w6 h0 n0 _ T114.heap _
    rw [e114]
    exact ⟨rfl, N114⟩
  · have pre121 : Go p e below T76 (mkF m 93 #[.val (.int p1), .val (.ref b2), .val (.ref b48), .val (.int (4 : Int32))] [(.int (4 : Int32)), (.ref b2)]) s₁ (entryFrame m #[(.int p1)] maxLocals) := fun t k => pre79 t (by
        show Steps p.tables e below (T76.setTop (mkF m 90 #[.val (.int p1), .val (.ref b2), .val (.ref b48), .unset] [(.int ((p1 &&& (2147483647 : Int32)) % (7 : Int32)))])) t
        refine XS.istoreN X76.here hx rfl (hb hby at_90) rfl (l' := #[.val (.int p1), .val (.ref b2), .val (.ref b48), .val (.int (4 : Int32))]) (by rw [hv80_4]; rfl) ?_
        show Steps p.tables e below (T76.setTop (mkF m 91 #[.val (.int p1), .val (.ref b2), .val (.ref b48), .val (.int (4 : Int32))] [])) t
        refine XS.aloadN X76.here hx rfl (hb hby at_91) rfl rfl ?_
        show Steps p.tables e below (T76.setTop (mkF m 92 #[.val (.int p1), .val (.ref b2), .val (.ref b48), .val (.int (4 : Int32))] [(.ref b2)])) t
        refine XS.iloadN X76.here hx rfl (hb hby at_92) rfl ?_
        exact k)
    obtain ⟨cl122, Ar122, q122, Sz122, M122, H122, G122⟩ := ((((((((V44.ext Et48).other W52 ne_b2_b48).other W56 ne_b2_b48).other W60 ne_b2_b48).other W64 ne_b2_b48).other W68 ne_b2_b48).other W72 ne_b2_b48).other W76 ne_b2_b48)
    have hin122 : ¬ ((4 : Int32) < 0 ∨ cl122.slots.size ≤ ((4 : Int32)).toNatClampNeg) := inb_of Sz122 ⟨by decide, by decide⟩
    have hat122 : cl122.slots[((4 : Int32)).toNatClampNeg]? = some (.ref w4) := Has.at H122 hin122 rfl
    have pre123 : Go p e below T76 (mkF m 94 #[.val (.int p1), .val (.ref b2), .val (.ref b48), .val (.int (4 : Int32))] [(.ref w4)]) s₁ (entryFrame m #[(.int p1)] maxLocals) := fun t k => pre121 t (by
        show Steps p.tables e below (T76.setTop (mkF m 93 #[.val (.int p1), .val (.ref b2), .val (.ref b48), .val (.int (4 : Int32))] [(.int (4 : Int32)), (.ref b2)])) t
        refine X76.aaload hx (j := (4 : Int32)) (v := (.ref w4)) (by rw [e76]; exact Ar122.1) (State.isArrayOf_alike hZ.alike Ar122.2.1) rfl Ar122.2.2 hin122 hat122 (g := (mkF m 93 #[.val (.int p1), .val (.ref b2), .val (.ref b48), .val (.int (4 : Int32))] [(.int (4 : Int32)), (.ref b2)])) rfl rfl (hb hby at_93) _ ?_
        exact k)
    obtain ⟨cq124, kq124, q124a, q124b, q124c⟩ := isOf hZ e76 (E4.ext O78.2)
    obtain ⟨_, _, ⟨T124, L124, k124, n124⟩, -, X124, ⟨Lc124, hQ124, l124, y124, z124⟩, st124⟩ := X76.virtualBack hx (y := (⟨"com/example/uni_repos/unirepos/mapping/ValueType", "isOrdered", "()Z"⟩ : MethodName)) (z := (⟨"com/example/uni_repos/unirepos/mapping/ValueType", "isOrdered", "()Z"⟩ : MethodName)) hown (mvT hZ (hw _ (List.mem_of_getElem? (i := 20) rfl))) (mvT hZ (hw _ (List.mem_of_getElem? (i := 21) rfl))) (notFace_of_selects (args := #[]) (mvT hZ (hw _ (List.mem_of_getElem? (i := 23) rfl)))) (mvT hZ (hw _ (List.mem_of_getElem? (i := 23) rfl))) (mvT hZ (hw _ (List.mem_of_getElem? (i := 22) rfl))) (by decide) (backOf (W := 0) (rmF l Z a0 hw [] w4 w6 1 h76 n0 Z78 (S6.ext O78.2) (by simp [ordF, d4])) hZ (hw _ (List.mem_of_getElem? (i := 24) rfl)) (hw _ (List.mem_of_getElem? (i := 3) rfl)) (by decide) (by decide)) q124a q124c (g := (mkF m 94 #[.val (.int p1), .val (.ref b2), .val (.ref b48), .val (.int (4 : Int32))] [(.ref w4)])) rfl (by rw [hml]; rfl) (Steps.refl _) (argsL := []) (rest := []) (lenOf pdL_0 rfl) rfl (by show 2 * 0 + _ ≤ _; exact Nat.le_of_eq rfl) (hb hby at_94) (fun _ _ => ⟨rfl, e76, (by decide : 2 + 0 ≤ _), (by decide : 14 + 0 ≤ _)⟩)
    dsimp only [Pt.U, Pt.locs, Pt.cells, Pt.slots] at X124 l124 y124 z124 st124 hQ124
    subst l124 y124 z124
    obtain ⟨rfl, N124q, hq124⟩ := hQ124
    have N124 := Fr.app N76 N124q
    have pre125 : Go p e below T124 (mkF m 97 #[.val (.int p1), .val (.ref b2), .val (.ref b48), .val (.int (4 : Int32))] [(.int (1 : Int32))]) s₁ (entryFrame m #[(.int p1)] maxLocals) := fun t k => pre123 t (st124.trans k)
    have e124 : T124.heap = h76 := hq124
    have pre126 : Go p e below T124 (mkF m 99 #[.val (.int p1), .val (.ref b2), .val (.ref b48), .val (.int (4 : Int32))] [(.int (4 : Int32)), (.ref b48), (.int (1 : Int32))]) s₁ (entryFrame m #[(.int p1)] maxLocals) := fun t k => pre125 t (by
        show Steps p.tables e below (T124.setTop (mkF m 97 #[.val (.int p1), .val (.ref b2), .val (.ref b48), .val (.int (4 : Int32))] [(.int (1 : Int32))])) t
        refine XS.aloadN X124.here hx rfl (hb hby at_97) rfl rfl ?_
        show Steps p.tables e below (T124.setTop (mkF m 98 #[.val (.int p1), .val (.ref b2), .val (.ref b48), .val (.int (4 : Int32))] [(.ref b48), (.int (1 : Int32))])) t
        refine XS.iloadN X124.here hx rfl (hb hby at_98) rfl ?_
        exact k)
    obtain ⟨cl127, Ar127, q127, Sz127, M127, H127, G127⟩ := V76
    have hin127 : ¬ ((4 : Int32) < 0 ∨ cl127.slots.size ≤ ((4 : Int32)).toNatClampNeg) := inb_of Sz127 ⟨by decide, by decide⟩
    have hat127 : cl127.slots[((4 : Int32)).toNatClampNeg]? = some (.int (1 : Int32)) := Has.at H127 hin127 rfl
    have pre128 : Go p e below T124 (mkF m 100 #[.val (.int p1), .val (.ref b2), .val (.ref b48), .val (.int (4 : Int32))] [(.int (1 : Int32)), (.int (1 : Int32))]) s₁ (entryFrame m #[(.int p1)] maxLocals) := fun t k => pre126 t (by
        show Steps p.tables e below (T124.setTop (mkF m 99 #[.val (.int p1), .val (.ref b2), .val (.ref b48), .val (.int (4 : Int32))] [(.int (4 : Int32)), (.ref b48), (.int (1 : Int32))])) t
        refine X124.baloadBooleans hx (j := (4 : Int32)) (v := (.int (1 : Int32))) (by rw [e124]; exact Ar127.1) (State.isArrayOf_alike hZ.alike Ar127.2.1) Ar127.2.2 hin127 hat127 (g := (mkF m 99 #[.val (.int p1), .val (.ref b2), .val (.ref b48), .val (.int (4 : Int32))] [(.int (4 : Int32)), (.ref b48), (.int (1 : Int32))])) rfl rfl (hb hby at_99) _ ?_
        exact k)
    have pre129 : Go p e below T124 (mkF m 103 #[.val (.int p1), .val (.ref b2), .val (.ref b48), .val (.int (4 : Int32))] []) s₁ (entryFrame m #[(.int p1)] maxLocals) := fun t k => pre128 t (XS.icmpNo X124.here hx rfl (hb hby at_100) rfl (teq (by decide : (1 : Int32) = (1 : Int32))).2 k)
    have pre130 : Go p e below T124 (mkF m 108 #[.val (.int p1), .val (.ref b2), .val (.ref b48), .val (.int (4 : Int32))] [(.int (1 : Int32))]) s₁ (entryFrame m #[(.int p1)] maxLocals) := fun t k => pre129 t (by
        show Steps p.tables e below (T124.setTop (mkF m 103 #[.val (.int p1), .val (.ref b2), .val (.ref b48), .val (.int (4 : Int32))] [])) t
        refine XS.iconst X124.here hx rfl (hb hby at_103) ?_
        show Steps p.tables e below (T124.setTop (mkF m 104 #[.val (.int p1), .val (.ref b2), .val (.ref b48), .val (.int (4 : Int32))] [(.int (1 : Int32))])) t
        refine XS.goto X124.here hx rfl (pc0 := 104) (pc' := 108) rfl (hb hby at_104) (by decide) (by decide) ?_
        exact k)
    have hnr : Value.int (nar .boolean (1 : Int32)) = (.int (1 : Int32)) := by rfl
    obtain ⟨fs, hr, hrun, hended, hW, hsame⟩ := X124.leave (v := some (.int (1 : Int32))) (fun h => by rw [Bd.returns] at h; cases h)
    refine ⟨_, _, pre130 _ (retN X124 hx (t := .boolean) Bd.returns (by simp) (hb hby at_108) (hnr ▸ hr)), hrun, hended, _, _, rfl, ?_, ⟨_, rfl⟩, hW, hsame.mono (by decide) (by decide)⟩
    show QL Z p1 w0 w1 w2 w3 w4 w5 w6 h0 n0 _ T124.heap _
    rw [e124]
    exact ⟨rfl, N124⟩
  · have pre131 : Go p e below T76 (mkF m 93 #[.val (.int p1), .val (.ref b2), .val (.ref b48), .val (.int (5 : Int32))] [(.int (5 : Int32)), (.ref b2)]) s₁ (entryFrame m #[(.int p1)] maxLocals) := fun t k => pre79 t (by
        show Steps p.tables e below (T76.setTop (mkF m 90 #[.val (.int p1), .val (.ref b2), .val (.ref b48), .unset] [(.int ((p1 &&& (2147483647 : Int32)) % (7 : Int32)))])) t
        refine XS.istoreN X76.here hx rfl (hb hby at_90) rfl (l' := #[.val (.int p1), .val (.ref b2), .val (.ref b48), .val (.int (5 : Int32))]) (by rw [hv80_5]; rfl) ?_
        show Steps p.tables e below (T76.setTop (mkF m 91 #[.val (.int p1), .val (.ref b2), .val (.ref b48), .val (.int (5 : Int32))] [])) t
        refine XS.aloadN X76.here hx rfl (hb hby at_91) rfl rfl ?_
        show Steps p.tables e below (T76.setTop (mkF m 92 #[.val (.int p1), .val (.ref b2), .val (.ref b48), .val (.int (5 : Int32))] [(.ref b2)])) t
        refine XS.iloadN X76.here hx rfl (hb hby at_92) rfl ?_
        exact k)
    obtain ⟨cl132, Ar132, q132, Sz132, M132, H132, G132⟩ := ((((((((V44.ext Et48).other W52 ne_b2_b48).other W56 ne_b2_b48).other W60 ne_b2_b48).other W64 ne_b2_b48).other W68 ne_b2_b48).other W72 ne_b2_b48).other W76 ne_b2_b48)
    have hin132 : ¬ ((5 : Int32) < 0 ∨ cl132.slots.size ≤ ((5 : Int32)).toNatClampNeg) := inb_of Sz132 ⟨by decide, by decide⟩
    have hat132 : cl132.slots[((5 : Int32)).toNatClampNeg]? = some (.ref w5) := Has.at H132 hin132 rfl
    have pre133 : Go p e below T76 (mkF m 94 #[.val (.int p1), .val (.ref b2), .val (.ref b48), .val (.int (5 : Int32))] [(.ref w5)]) s₁ (entryFrame m #[(.int p1)] maxLocals) := fun t k => pre131 t (by
        show Steps p.tables e below (T76.setTop (mkF m 93 #[.val (.int p1), .val (.ref b2), .val (.ref b48), .val (.int (5 : Int32))] [(.int (5 : Int32)), (.ref b2)])) t
        refine X76.aaload hx (j := (5 : Int32)) (v := (.ref w5)) (by rw [e76]; exact Ar132.1) (State.isArrayOf_alike hZ.alike Ar132.2.1) rfl Ar132.2.2 hin132 hat132 (g := (mkF m 93 #[.val (.int p1), .val (.ref b2), .val (.ref b48), .val (.int (5 : Int32))] [(.int (5 : Int32)), (.ref b2)])) rfl rfl (hb hby at_93) _ ?_
        exact k)
    obtain ⟨cq134, kq134, q134a, q134b, q134c⟩ := isOf hZ e76 (E5.ext O78.2)
    obtain ⟨_, _, ⟨T134, L134, k134, n134⟩, -, X134, ⟨Lc134, hQ134, l134, y134, z134⟩, st134⟩ := X76.virtualBack hx (y := (⟨"com/example/uni_repos/unirepos/mapping/ValueType", "isOrdered", "()Z"⟩ : MethodName)) (z := (⟨"com/example/uni_repos/unirepos/mapping/ValueType", "isOrdered", "()Z"⟩ : MethodName)) hown (mvT hZ (hw _ (List.mem_of_getElem? (i := 20) rfl))) (mvT hZ (hw _ (List.mem_of_getElem? (i := 21) rfl))) (notFace_of_selects (args := #[]) (mvT hZ (hw _ (List.mem_of_getElem? (i := 23) rfl)))) (mvT hZ (hw _ (List.mem_of_getElem? (i := 23) rfl))) (mvT hZ (hw _ (List.mem_of_getElem? (i := 22) rfl))) (by decide) (backOf (W := 0) (rmF l Z a0 hw [] w5 w6 1 h76 n0 Z78 (S6.ext O78.2) (by simp [ordF, d5])) hZ (hw _ (List.mem_of_getElem? (i := 24) rfl)) (hw _ (List.mem_of_getElem? (i := 3) rfl)) (by decide) (by decide)) q134a q134c (g := (mkF m 94 #[.val (.int p1), .val (.ref b2), .val (.ref b48), .val (.int (5 : Int32))] [(.ref w5)])) rfl (by rw [hml]; rfl) (Steps.refl _) (argsL := []) (rest := []) (lenOf pdL_0 rfl) rfl (by show 2 * 0 + _ ≤ _; exact Nat.le_of_eq rfl) (hb hby at_94) (fun _ _ => ⟨rfl, e76, (by decide : 2 + 0 ≤ _), (by decide : 14 + 0 ≤ _)⟩)
    dsimp only [Pt.U, Pt.locs, Pt.cells, Pt.slots] at X134 l134 y134 z134 st134 hQ134
    subst l134 y134 z134
    obtain ⟨rfl, N134q, hq134⟩ := hQ134
    have N134 := Fr.app N76 N134q
    have pre135 : Go p e below T134 (mkF m 97 #[.val (.int p1), .val (.ref b2), .val (.ref b48), .val (.int (5 : Int32))] [(.int (1 : Int32))]) s₁ (entryFrame m #[(.int p1)] maxLocals) := fun t k => pre133 t (st134.trans k)
    have e134 : T134.heap = h76 := hq134
    have pre136 : Go p e below T134 (mkF m 99 #[.val (.int p1), .val (.ref b2), .val (.ref b48), .val (.int (5 : Int32))] [(.int (5 : Int32)), (.ref b48), (.int (1 : Int32))]) s₁ (entryFrame m #[(.int p1)] maxLocals) := fun t k => pre135 t (by
        show Steps p.tables e below (T134.setTop (mkF m 97 #[.val (.int p1), .val (.ref b2), .val (.ref b48), .val (.int (5 : Int32))] [(.int (1 : Int32))])) t
        refine XS.aloadN X134.here hx rfl (hb hby at_97) rfl rfl ?_
        show Steps p.tables e below (T134.setTop (mkF m 98 #[.val (.int p1), .val (.ref b2), .val (.ref b48), .val (.int (5 : Int32))] [(.ref b48), (.int (1 : Int32))])) t
        refine XS.iloadN X134.here hx rfl (hb hby at_98) rfl ?_
        exact k)
    obtain ⟨cl137, Ar137, q137, Sz137, M137, H137, G137⟩ := V76
    have hin137 : ¬ ((5 : Int32) < 0 ∨ cl137.slots.size ≤ ((5 : Int32)).toNatClampNeg) := inb_of Sz137 ⟨by decide, by decide⟩
    have hat137 : cl137.slots[((5 : Int32)).toNatClampNeg]? = some (.int (1 : Int32)) := Has.at H137 hin137 rfl
    have pre138 : Go p e below T134 (mkF m 100 #[.val (.int p1), .val (.ref b2), .val (.ref b48), .val (.int (5 : Int32))] [(.int (1 : Int32)), (.int (1 : Int32))]) s₁ (entryFrame m #[(.int p1)] maxLocals) := fun t k => pre136 t (by
        show Steps p.tables e below (T134.setTop (mkF m 99 #[.val (.int p1), .val (.ref b2), .val (.ref b48), .val (.int (5 : Int32))] [(.int (5 : Int32)), (.ref b48), (.int (1 : Int32))])) t
        refine X134.baloadBooleans hx (j := (5 : Int32)) (v := (.int (1 : Int32))) (by rw [e134]; exact Ar137.1) (State.isArrayOf_alike hZ.alike Ar137.2.1) Ar137.2.2 hin137 hat137 (g := (mkF m 99 #[.val (.int p1), .val (.ref b2), .val (.ref b48), .val (.int (5 : Int32))] [(.int (5 : Int32)), (.ref b48), (.int (1 : Int32))])) rfl rfl (hb hby at_99) _ ?_
        exact k)
    have pre139 : Go p e below T134 (mkF m 103 #[.val (.int p1), .val (.ref b2), .val (.ref b48), .val (.int (5 : Int32))] []) s₁ (entryFrame m #[(.int p1)] maxLocals) := fun t k => pre138 t (XS.icmpNo X134.here hx rfl (hb hby at_100) rfl (teq (by decide : (1 : Int32) = (1 : Int32))).2 k)
    have pre140 : Go p e below T134 (mkF m 108 #[.val (.int p1), .val (.ref b2), .val (.ref b48), .val (.int (5 : Int32))] [(.int (1 : Int32))]) s₁ (entryFrame m #[(.int p1)] maxLocals) := fun t k => pre139 t (by
        show Steps p.tables e below (T134.setTop (mkF m 103 #[.val (.int p1), .val (.ref b2), .val (.ref b48), .val (.int (5 : Int32))] [])) t
        refine XS.iconst X134.here hx rfl (hb hby at_103) ?_
        show Steps p.tables e below (T134.setTop (mkF m 104 #[.val (.int p1), .val (.ref b2), .val (.ref b48), .val (.int (5 : Int32))] [(.int (1 : Int32))])) t
        refine XS.goto X134.here hx rfl (pc0 := 104) (pc' := 108) rfl (hb hby at_104) (by decide) (by decide) ?_
        exact k)
    have hnr : Value.int (nar .boolean (1 : Int32)) = (.int (1 : Int32)) := by rfl
    obtain ⟨fs, hr, hrun, hended, hW, hsame⟩ := X134.leave (v := some (.int (1 : Int32))) (fun h => by rw [Bd.returns] at h; cases h)
    refine ⟨_, _, pre140 _ (retN X134 hx (t := .boolean) Bd.returns (by simp) (hb hby at_108) (hnr ▸ hr)), hrun, hended, _, _, rfl, ?_, ⟨_, rfl⟩, hW, hsame.mono (by decide) (by decide)⟩
    show QL Z p1 w0 w1 w2 w3 w4 w5 w6 h0 n0 _ T134.heap _
    rw [e134]
    exact ⟨rfl, N134⟩
  · have pre141 : Go p e below T76 (mkF m 93 #[.val (.int p1), .val (.ref b2), .val (.ref b48), .val (.int (6 : Int32))] [(.int (6 : Int32)), (.ref b2)]) s₁ (entryFrame m #[(.int p1)] maxLocals) := fun t k => pre79 t (by
        show Steps p.tables e below (T76.setTop (mkF m 90 #[.val (.int p1), .val (.ref b2), .val (.ref b48), .unset] [(.int ((p1 &&& (2147483647 : Int32)) % (7 : Int32)))])) t
        refine XS.istoreN X76.here hx rfl (hb hby at_90) rfl (l' := #[.val (.int p1), .val (.ref b2), .val (.ref b48), .val (.int (6 : Int32))]) (by rw [hv80_6]; rfl) ?_
        show Steps p.tables e below (T76.setTop (mkF m 91 #[.val (.int p1), .val (.ref b2), .val (.ref b48), .val (.int (6 : Int32))] [])) t
        refine XS.aloadN X76.here hx rfl (hb hby at_91) rfl rfl ?_
        show Steps p.tables e below (T76.setTop (mkF m 92 #[.val (.int p1), .val (.ref b2), .val (.ref b48), .val (.int (6 : Int32))] [(.ref b2)])) t
        refine XS.iloadN X76.here hx rfl (hb hby at_92) rfl ?_
        exact k)
    obtain ⟨cl142, Ar142, q142, Sz142, M142, H142, G142⟩ := ((((((((V44.ext Et48).other W52 ne_b2_b48).other W56 ne_b2_b48).other W60 ne_b2_b48).other W64 ne_b2_b48).other W68 ne_b2_b48).other W72 ne_b2_b48).other W76 ne_b2_b48)
    have hin142 : ¬ ((6 : Int32) < 0 ∨ cl142.slots.size ≤ ((6 : Int32)).toNatClampNeg) := inb_of Sz142 ⟨by decide, by decide⟩
    have hat142 : cl142.slots[((6 : Int32)).toNatClampNeg]? = some (.ref w6) := Has.at H142 hin142 rfl
    have pre143 : Go p e below T76 (mkF m 94 #[.val (.int p1), .val (.ref b2), .val (.ref b48), .val (.int (6 : Int32))] [(.ref w6)]) s₁ (entryFrame m #[(.int p1)] maxLocals) := fun t k => pre141 t (by
        show Steps p.tables e below (T76.setTop (mkF m 93 #[.val (.int p1), .val (.ref b2), .val (.ref b48), .val (.int (6 : Int32))] [(.int (6 : Int32)), (.ref b2)])) t
        refine X76.aaload hx (j := (6 : Int32)) (v := (.ref w6)) (by rw [e76]; exact Ar142.1) (State.isArrayOf_alike hZ.alike Ar142.2.1) rfl Ar142.2.2 hin142 hat142 (g := (mkF m 93 #[.val (.int p1), .val (.ref b2), .val (.ref b48), .val (.int (6 : Int32))] [(.int (6 : Int32)), (.ref b2)])) rfl rfl (hb hby at_93) _ ?_
        exact k)
    obtain ⟨cq144, kq144, q144a, q144b, q144c⟩ := isOf hZ e76 (E6.ext O78.2)
    obtain ⟨_, _, ⟨T144, L144, k144, n144⟩, -, X144, ⟨Lc144, hQ144, l144, y144, z144⟩, st144⟩ := X76.virtualBack hx (y := (⟨"com/example/uni_repos/unirepos/mapping/ValueType", "isOrdered", "()Z"⟩ : MethodName)) (z := (⟨"com/example/uni_repos/unirepos/mapping/ValueType", "isOrdered", "()Z"⟩ : MethodName)) hown (mvT hZ (hw _ (List.mem_of_getElem? (i := 20) rfl))) (mvT hZ (hw _ (List.mem_of_getElem? (i := 21) rfl))) (notFace_of_selects (args := #[]) (mvT hZ (hw _ (List.mem_of_getElem? (i := 23) rfl)))) (mvT hZ (hw _ (List.mem_of_getElem? (i := 23) rfl))) (mvT hZ (hw _ (List.mem_of_getElem? (i := 22) rfl))) (by decide) (backOf (W := 0) (rmF l Z a0 hw [] w6 w6 0 h76 n0 Z78 (S6.ext O78.2) (by simp [ordF])) hZ (hw _ (List.mem_of_getElem? (i := 24) rfl)) (hw _ (List.mem_of_getElem? (i := 3) rfl)) (by decide) (by decide)) q144a q144c (g := (mkF m 94 #[.val (.int p1), .val (.ref b2), .val (.ref b48), .val (.int (6 : Int32))] [(.ref w6)])) rfl (by rw [hml]; rfl) (Steps.refl _) (argsL := []) (rest := []) (lenOf pdL_0 rfl) rfl (by show 2 * 0 + _ ≤ _; exact Nat.le_of_eq rfl) (hb hby at_94) (fun _ _ => ⟨rfl, e76, (by decide : 2 + 0 ≤ _), (by decide : 14 + 0 ≤ _)⟩)
    dsimp only [Pt.U, Pt.locs, Pt.cells, Pt.slots] at X144 l144 y144 z144 st144 hQ144
    subst l144 y144 z144
    obtain ⟨rfl, N144q, hq144⟩ := hQ144
    have N144 := Fr.app N76 N144q
    have pre145 : Go p e below T144 (mkF m 97 #[.val (.int p1), .val (.ref b2), .val (.ref b48), .val (.int (6 : Int32))] [(.int (0 : Int32))]) s₁ (entryFrame m #[(.int p1)] maxLocals) := fun t k => pre143 t (st144.trans k)
    have e144 : T144.heap = h76 := hq144
    have pre146 : Go p e below T144 (mkF m 99 #[.val (.int p1), .val (.ref b2), .val (.ref b48), .val (.int (6 : Int32))] [(.int (6 : Int32)), (.ref b48), (.int (0 : Int32))]) s₁ (entryFrame m #[(.int p1)] maxLocals) := fun t k => pre145 t (by
        show Steps p.tables e below (T144.setTop (mkF m 97 #[.val (.int p1), .val (.ref b2), .val (.ref b48), .val (.int (6 : Int32))] [(.int (0 : Int32))])) t
        refine XS.aloadN X144.here hx rfl (hb hby at_97) rfl rfl ?_
        show Steps p.tables e below (T144.setTop (mkF m 98 #[.val (.int p1), .val (.ref b2), .val (.ref b48), .val (.int (6 : Int32))] [(.ref b48), (.int (0 : Int32))])) t
        refine XS.iloadN X144.here hx rfl (hb hby at_98) rfl ?_
        exact k)
    obtain ⟨cl147, Ar147, q147, Sz147, M147, H147, G147⟩ := V76
    have hin147 : ¬ ((6 : Int32) < 0 ∨ cl147.slots.size ≤ ((6 : Int32)).toNatClampNeg) := inb_of Sz147 ⟨by decide, by decide⟩
    have hat147 : cl147.slots[((6 : Int32)).toNatClampNeg]? = some (.int (0 : Int32)) := Has.at H147 hin147 rfl
    have pre148 : Go p e below T144 (mkF m 100 #[.val (.int p1), .val (.ref b2), .val (.ref b48), .val (.int (6 : Int32))] [(.int (0 : Int32)), (.int (0 : Int32))]) s₁ (entryFrame m #[(.int p1)] maxLocals) := fun t k => pre146 t (by
        show Steps p.tables e below (T144.setTop (mkF m 99 #[.val (.int p1), .val (.ref b2), .val (.ref b48), .val (.int (6 : Int32))] [(.int (6 : Int32)), (.ref b48), (.int (0 : Int32))])) t
        refine X144.baloadBooleans hx (j := (6 : Int32)) (v := (.int (0 : Int32))) (by rw [e144]; exact Ar147.1) (State.isArrayOf_alike hZ.alike Ar147.2.1) Ar147.2.2 hin147 hat147 (g := (mkF m 99 #[.val (.int p1), .val (.ref b2), .val (.ref b48), .val (.int (6 : Int32))] [(.int (6 : Int32)), (.ref b48), (.int (0 : Int32))])) rfl rfl (hb hby at_99) _ ?_
        exact k)
    have pre149 : Go p e below T144 (mkF m 103 #[.val (.int p1), .val (.ref b2), .val (.ref b48), .val (.int (6 : Int32))] []) s₁ (entryFrame m #[(.int p1)] maxLocals) := fun t k => pre148 t (XS.icmpNo X144.here hx rfl (hb hby at_100) rfl (teq (by decide : (0 : Int32) = (0 : Int32))).2 k)
    have pre150 : Go p e below T144 (mkF m 108 #[.val (.int p1), .val (.ref b2), .val (.ref b48), .val (.int (6 : Int32))] [(.int (1 : Int32))]) s₁ (entryFrame m #[(.int p1)] maxLocals) := fun t k => pre149 t (by
        show Steps p.tables e below (T144.setTop (mkF m 103 #[.val (.int p1), .val (.ref b2), .val (.ref b48), .val (.int (6 : Int32))] [])) t
        refine XS.iconst X144.here hx rfl (hb hby at_103) ?_
        show Steps p.tables e below (T144.setTop (mkF m 104 #[.val (.int p1), .val (.ref b2), .val (.ref b48), .val (.int (6 : Int32))] [(.int (1 : Int32))])) t
        refine XS.goto X144.here hx rfl (pc0 := 104) (pc' := 108) rfl (hb hby at_104) (by decide) (by decide) ?_
        exact k)
    have hnr : Value.int (nar .boolean (1 : Int32)) = (.int (1 : Int32)) := by rfl
    obtain ⟨fs, hr, hrun, hended, hW, hsame⟩ := X144.leave (v := some (.int (1 : Int32))) (fun h => by rw [Bd.returns] at h; cases h)
    refine ⟨_, _, pre150 _ (retN X144 hx (t := .boolean) Bd.returns (by simp) (hb hby at_108) (hnr ▸ hr)), hrun, hended, _, _, rfl, ?_, ⟨_, rfl⟩, hW, hsame.mono (by decide) (by decide)⟩
    show QL Z p1 w0 w1 w2 w3 w4 w5 w6 h0 n0 _ T144.heap _
    rw [e144]
    exact ⟨rfl, N144⟩
set_option maxRecDepth 65536 in
set_option maxHeartbeats 40000000 in
theorem comes_1 {Post : Tables → Env → Array Value → State → Outcome → State → Prop} (hpost : ∀ tb e args s v u, (limb_1_1.after args s (.returned v) u = true ∧ limb_1_2.after args s (.returned v) u = true ∧ True) → FrameEnd s (.returned v) u (Jvm.fieldLocs frame_1_writes args s ++ Jvm.arrayLocs frame_1_arrays args s ++ Jvm.staticLocs frame_1_statics s) 16 128 → Post tb e args s (.returned v) u) :
    ArmFor flags0 classFile x code maxLocals ret World_1 tables_1 room_1 Calls_1 rest_1 Pre_1 Post := by
  intro l hfl _ _ p e ha hc hk s m args below hf hA hF happ hP
  obtain ⟨hcalls, hrest, hpre⟩ := hP
  obtain ⟨-, -, -, hnamed, -, -, -, hat⟩ := (Spec.applies_iff hf).mp happ
  obtain ⟨hg, hn⟩ := and_e (Cond.before_iff.mp (show (Jvm.Cond.and given_1 narrow_1).before args s = true from hpre))
  obtain ⟨hg0, hg1⟩ := and_e hg
  obtain ⟨w0, rfl⟩ : ∃ w0 : Value, args = #[w0] := by
    have hs : args.size = 1 := by simpa [Cond.value, given_1] using hg0
    obtain ⟨L⟩ := args
    match L, hs with
    | [w0], _ => exact ⟨w0, rfl⟩
  have hw := fun d (hd : d ∈ tables_1) => atoms_spec (ws := Jvm.Cond.code x code maxLocals ret :: tables_1) hat d (List.mem_cons_of_mem _ hd)
  have hfit : Fit s := fun {y c} hc i hi => by
    obtain ⟨ha, rfl⟩ := Array.getElem?_eq_some_iff.mp hc
    have q := List.all_eq_true.mp ((Array.all_eq_true_iff_forall_mem.mp hF) _ (Array.getElem_mem ha)) i (List.mem_range.mpr hi)
    simpa [Array.getElem?_eq_getElem hi] using q
  obtain ⟨x0, ei0⟩ := is_v hg1
  obtain rfl : w0 = (.int x0) := Option.some.inj ei0
  obtain ⟨nr0, nr1⟩ := and_e hn
  obtain ⟨nr2, nr3⟩ := and_e nr1
  obtain ⟨nr4, nr5⟩ := and_e nr3
  obtain ⟨nr6, nr7⟩ := and_e nr5
  obtain ⟨nr8, nr9⟩ := and_e nr7
  obtain ⟨nr10, nr11⟩ := and_e nr9
  obtain ⟨nr12, nr13⟩ := and_e nr11
  obtain ⟨nr14, nr15⟩ := and_e nr13
  obtain ⟨nr16, nr17⟩ := and_e nr15
  obtain ⟨nr18, nr19⟩ := and_e nr17
  obtain ⟨nr20, nr21⟩ := and_e nr19
  obtain ⟨nr22, nr23⟩ := and_e nr21
  obtain ⟨nr24, nr25⟩ := and_e nr23
  obtain ⟨a0, ev0⟩ := exa_v nr0
  have E0 : Exa s s.heap a0 "com/example/uni_repos/unirepos/mapping/ValueType" := Exa.start ev0 nr0
  have S0 : Sta s s.heap "com/example/uni_repos/unirepos/mapping/ValueType" "STRING" "Lcom/example/uni_repos/unirepos/mapping/ValueType;" (.ref a0) := Sta.start ev0 (Or.inr ⟨(hw _ (List.mem_of_getElem? (i := 3) rfl)), (hw _ (List.mem_of_getElem? (i := 4) rfl))⟩)
  have F0 := own_fld ev0 nr14
  obtain ⟨a1, ev1⟩ := exa_v nr2
  have E1 : Exa s s.heap a1 "com/example/uni_repos/unirepos/mapping/ValueType" := Exa.start ev1 nr2
  have S1 : Sta s s.heap "com/example/uni_repos/unirepos/mapping/ValueType" "BOOLEAN" "Lcom/example/uni_repos/unirepos/mapping/ValueType;" (.ref a1) := Sta.start ev1 (Or.inr ⟨(hw _ (List.mem_of_getElem? (i := 3) rfl)), (hw _ (List.mem_of_getElem? (i := 7) rfl))⟩)
  have F1 := own_fld ev1 nr25
  obtain ⟨a2, ev2⟩ := exa_v nr4
  have E2 : Exa s s.heap a2 "com/example/uni_repos/unirepos/mapping/ValueType" := Exa.start ev2 nr4
  have S2 : Sta s s.heap "com/example/uni_repos/unirepos/mapping/ValueType" "INT" "Lcom/example/uni_repos/unirepos/mapping/ValueType;" (.ref a2) := Sta.start ev2 (Or.inr ⟨(hw _ (List.mem_of_getElem? (i := 3) rfl)), (hw _ (List.mem_of_getElem? (i := 9) rfl))⟩)
  have F2 := own_fld ev2 nr24
  obtain ⟨a3, ev3⟩ := exa_v nr6
  have E3 : Exa s s.heap a3 "com/example/uni_repos/unirepos/mapping/ValueType" := Exa.start ev3 nr6
  have S3 : Sta s s.heap "com/example/uni_repos/unirepos/mapping/ValueType" "LONG" "Lcom/example/uni_repos/unirepos/mapping/ValueType;" (.ref a3) := Sta.start ev3 (Or.inr ⟨(hw _ (List.mem_of_getElem? (i := 3) rfl)), (hw _ (List.mem_of_getElem? (i := 11) rfl))⟩)
  have F3 := own_fld ev3 nr18
  obtain ⟨a4, ev4⟩ := exa_v nr8
  have E4 : Exa s s.heap a4 "com/example/uni_repos/unirepos/mapping/ValueType" := Exa.start ev4 nr8
  have S4 : Sta s s.heap "com/example/uni_repos/unirepos/mapping/ValueType" "DOUBLE" "Lcom/example/uni_repos/unirepos/mapping/ValueType;" (.ref a4) := Sta.start ev4 (Or.inr ⟨(hw _ (List.mem_of_getElem? (i := 3) rfl)), (hw _ (List.mem_of_getElem? (i := 13) rfl))⟩)
  have F4 := own_fld ev4 nr22
  obtain ⟨a5, ev5⟩ := exa_v nr10
  have E5 : Exa s s.heap a5 "com/example/uni_repos/unirepos/mapping/ValueType" := Exa.start ev5 nr10
  have S5 : Sta s s.heap "com/example/uni_repos/unirepos/mapping/ValueType" "DATE" "Lcom/example/uni_repos/unirepos/mapping/ValueType;" (.ref a5) := Sta.start ev5 (Or.inr ⟨(hw _ (List.mem_of_getElem? (i := 3) rfl)), (hw _ (List.mem_of_getElem? (i := 15) rfl))⟩)
  have F5 := own_fld ev5 nr20
  obtain ⟨a6, ev6⟩ := exa_v nr12
  have E6 : Exa s s.heap a6 "com/example/uni_repos/unirepos/mapping/ValueType" := Exa.start ev6 nr12
  have S6 : Sta s s.heap "com/example/uni_repos/unirepos/mapping/ValueType" "POINT" "Lcom/example/uni_repos/unirepos/mapping/ValueType;" (.ref a6) := Sta.start ev6 (Or.inr ⟨(hw _ (List.mem_of_getElem? (i := 3) rfl)), (hw _ (List.mem_of_getElem? (i := 17) rfl))⟩)
  have F6 := own_fld ev6 nr16
  obtain ⟨n, o, h1, h2, h3, _, L, rfl, ⟨rfl, N⟩, hq⟩ := rmL l s _ hw tables_1 x0 a0 a1 a2 a3 a4 a5 a6 s.heap s.heap.size (Nat.le_refl _) (Old.start s) S0 S1 S2 S3 S4 S5 S6 E0 E1 E2 E3 E4 E5 E6 (Fld.ne F0 F6 (by simp)) (Fld.ne F1 F6 (by simp)) (Fld.ne F2 F6 (by simp)) (Fld.ne F3 F6 (by simp)) (Fld.ne F4 F6 (by simp)) (Fld.ne F5 F6 (by simp)) p e ha hc hk s m _ below hf ((Spec.applies_iff_loose hf).mp happ).1 ⟨rfl, State.Warmed39.refl s, rfl⟩ trivial
  refine ⟨n, _, h1, h2, h3, hpost _ _ _ _ _ _ ⟨Cond.after_iff.mpr rfl, Cond.after_iff.mpr (eq_i res_at (Term.int_eval (1)) rfl), trivial⟩ ⟨hq.1, hq.2.1, (hq.2.2.sift fun y hy => Or.inr (N y hy)).mono (by decide) (by decide)⟩⟩
theorem main_1_1 : Claimed_1_1 := comes_1 fun _ _ _ _ _ _ h hF => ⟨h.1, hF⟩
theorem main_1_2 : Claimed_1_2 := comes_1 fun _ _ _ _ _ _ h hF => ⟨h.2.1, hF⟩
end Jvm.Pilot.@@N@@
namespace Jvm.Pilot.@@N@@
open Jvm Jvm.ClassFile Sem Op Lib Jvm.Free Jvm.Stand Jvm.Pilot.@@N@@.Jvm.D
/-! MADE BY PROGRAM (witnessworld.py) out of the Statement's table words and the real class files: 15 classes; the members and pool entries that the words name. The judged class is class 1, her method 1. -/
namespace start1
open Jvm.ClassFile
def u (s : String) : CpInfo := .utf8 (stringToUtf16 s)
/-- a pool by its gaps: so many unusable entries, then the entry; so many at the end -/
def gap : Nat → List CpInfo → List CpInfo
  | 0, r => r
  | n + 1, r => .unusable :: gap n r
def poolList (es : List (Nat × CpInfo)) (last : Nat) : List CpInfo := es.foldr (fun e r => gap e.1 (e.2 :: r)) (gap last [])
def pool (es : List (Nat × CpInfo)) (last : Nat) : Array CpInfo := ⟨poolList es last⟩
def fileOf (pool : Array CpInfo) (this : Nat) (attrs : Array Attribute := #[]) (ms : Array MethodInfo := #[]) (fl : Nat := 33) (sup : Nat := 0) (ifs : Array Nat := #[]) (fds : Array FieldInfo := #[]) : ClassFile where
  minorVersion := 0
  majorVersion := 65
  constantPool := pool
  accessFlags := fl
  thisClass := this
  superClass := sup
  interfaces := ifs
  fields := fds
  methods := ms
  attributes := attrs
def plain (name : String) (sup : Option ClassId) : Class where
  name := name
  kind := .ordinary
  loader := none
  accessFlags := 33
  super := sup
  interfaces := #[]
  cf := none
  fields := #[]
  methods := #[]
  instanceTypes := #[]
  staticTypes := #[]
  resolved := #[]
  callSites := []
  init := .initialized
  statics := none
  mirror := none

def pool0 : Array CpInfo := pool [(5, u "<init>"), (0, u "()V"), (1, .class_ 10), (1, u "java/lang/Object")] 113

def k0m0 : Method := { name := "<init>", desc := "()V", sig := { parameters := [], returnType := none }, accessFlags := 1, code := none }
/-- java/lang/Object -/
def k0 : Class := { plain "java/lang/Object" none with
  accessFlags := 33
  interfaces := #[]
  cf := some (fileOf pool0 8 #[] #[{ accessFlags := 1, nameIndex := 5, descriptorIndex := 6, attributes := #[] }] 33 0 #[] #[])
  fields := #[]
  methods := #[k0m0]
  instanceTypes := #[]
  staticTypes := #[]
  resolved := Array.replicate 124 none
  statics := none }

def pool1 : Array CpInfo := pool [(2, .class_ 4), (1, u "java/lang/Object"), (0, u "<init>"), (0, u "()V"), (0, .class_ 8), (0, u "com/example/uni_repos/unirepos/mapping/ValueType"), (0, .fieldref 7 10), (0, .nameAndType 11 12), (0, u "STRING"), (0, u "Lcom/example/uni_repos/unirepos/mapping/ValueType;"), (0, .fieldref 7 14), (0, .nameAndType 15 12), (0, u "BOOLEAN"), (0, .fieldref 7 17), (0, .nameAndType 18 12), (0, u "INT"), (0, .fieldref 7 20), (0, .nameAndType 21 12), (0, u "LONG"), (0, .fieldref 7 23), (0, .nameAndType 24 12), (0, u "DOUBLE"), (0, .fieldref 7 26), (0, .nameAndType 27 12), (0, u "DATE"), (0, .fieldref 7 29), (0, .nameAndType 30 12), (0, u "POINT"), (0, .integer 2147483647), (0, .methodref 7 33), (0, .nameAndType 34 35), (0, u "isOrdered"), (0, u "()Z"), (0, .class_ 37), (0, u "com/example/uni_repos/unirepos/mapping/ValueTypeIsOrderedPinLaw"), (2, u "law"), (0, u "(I)Z")] 7

def k1m0 : Method := { name := "<init>", desc := "()V", sig := { parameters := [], returnType := none }, accessFlags := 1, code := none }
def k1c1 : Code := { maxStack := 4, maxLocals := 4, code := code, exceptionTable := #[], attributes := #[] }
def k1m1 : Method := { name := "law", desc := "(I)Z", sig := { parameters := [.int], returnType := some .boolean }, accessFlags := 9, code := some k1c1 }
/-- com/example/uni_repos/unirepos/mapping/ValueTypeIsOrderedPinLaw -/
def k1 : Class := { plain "com/example/uni_repos/unirepos/mapping/ValueTypeIsOrderedPinLaw" (some 0) with
  accessFlags := 49
  interfaces := #[]
  cf := some (fileOf pool1 36 #[] #[{ accessFlags := 1, nameIndex := 5, descriptorIndex := 6, attributes := #[] }, { accessFlags := 9, nameIndex := 40, descriptorIndex := 41, attributes := #[] }] 49 2 #[] #[])
  fields := #[]
  methods := #[k1m0, k1m1]
  instanceTypes := #[]
  staticTypes := #[]
  resolved := Array.replicate 49 none
  statics := none }

def pool2 : Array CpInfo := pool [(1, .class_ 2), (0, u "java/lang/constant/Constable"), (0, .class_ 4), (0, u "java/lang/Object")] 6

/-- java/lang/constant/Constable -/
def k2 : Class := { plain "java/lang/constant/Constable" (some 0) with
  accessFlags := 1537
  interfaces := #[]
  cf := some (fileOf pool2 1 #[] #[] 1537 3 #[] #[])
  fields := #[]
  methods := #[]
  instanceTypes := #[]
  staticTypes := #[]
  resolved := Array.replicate 11 none
  statics := none }

def pool3 : Array CpInfo := pool [(1, .class_ 2), (0, u "java/lang/Comparable"), (0, .class_ 4), (0, u "java/lang/Object")] 7

/-- java/lang/Comparable -/
def k3 : Class := { plain "java/lang/Comparable" (some 0) with
  accessFlags := 1537
  interfaces := #[]
  cf := some (fileOf pool3 1 #[] #[] 1537 3 #[] #[])
  fields := #[]
  methods := #[]
  instanceTypes := #[]
  staticTypes := #[]
  resolved := Array.replicate 12 none
  statics := none }

def pool4 : Array CpInfo := pool [(1, .class_ 2), (0, u "java/io/Serializable"), (0, .class_ 4), (0, u "java/lang/Object")] 2

/-- java/io/Serializable -/
def k4 : Class := { plain "java/io/Serializable" (some 0) with
  accessFlags := 1537
  interfaces := #[]
  cf := some (fileOf pool4 1 #[] #[] 1537 3 #[] #[])
  fields := #[]
  methods := #[]
  instanceTypes := #[]
  staticTypes := #[]
  resolved := Array.replicate 7 none
  statics := none }

def pool5 : Array CpInfo := pool [(2, .class_ 4), (1, u "java/lang/Enum"), (0, u "name"), (0, u "Ljava/lang/String;"), (2, u "ordinal"), (0, u "I"), (1, .class_ 14), (1, u "java/lang/Object"), (4, u "hash"), (86, .class_ 108), (1, u "java/lang/Enum$EnumDesc"), (2, .class_ 112), (0, u "java/lang/constant/Constable"), (0, .class_ 114), (0, u "java/lang/Comparable"), (0, .class_ 116), (0, u "java/io/Serializable")] 87

/-- java/lang/Enum -/
def k5 : Class := { plain "java/lang/Enum" (some 0) with
  accessFlags := 1057
  interfaces := #[2, 3, 4]
  cf := some (fileOf pool5 2 #[.nestMembers #[106]] #[] 1057 12 #[111, 113, 115] #[{ accessFlags := 18, nameIndex := 5, descriptorIndex := 6, attributes := #[] }, { accessFlags := 18, nameIndex := 9, descriptorIndex := 10, attributes := #[] }, { accessFlags := 2, nameIndex := 19, descriptorIndex := 10, attributes := #[] }])
  fields := #[{ name := "name", type := (.object "java/lang/String"), accessFlags := 18, slot := 0, constantValue := 0 }, { name := "ordinal", type := .int, accessFlags := 18, slot := 1, constantValue := 0 }, { name := "hash", type := .int, accessFlags := 2, slot := 2, constantValue := 0 }]
  methods := #[]
  instanceTypes := #[(.object "java/lang/String"), .int, .int]
  staticTypes := #[]
  resolved := Array.replicate 204 none
  statics := none }

def pool6 : Array CpInfo := pool [(1, .class_ 2), (0, u "com/example/uni_repos/unirepos/mapping/ValueType"), (2, u "STRING"), (0, u "Lcom/example/uni_repos/unirepos/mapping/ValueType;"), (2, u "BOOLEAN"), (2, u "INT"), (2, u "LONG"), (2, u "DOUBLE"), (2, u "DATE"), (0, .fieldref 1 23), (0, .nameAndType 24 6), (0, u "POINT"), (2, u "$VALUES"), (0, u "[Lcom/example/uni_repos/unirepos/mapping/ValueType;"), (6, .class_ 37), (1, u "java/lang/Enum"), (8, u "objectType"), (0, u "Ljava/lang/Class;"), (2, u "primitiveType"), (55, u "()Z"), (95, u "isOrdered")] 6

def k6c0 : Code := { maxStack := 2, maxLocals := 1, code := prog_29_method_6_code, exceptionTable := #[], attributes := #[] }
def k6m0 : Method := { name := "isOrdered", desc := "()Z", sig := { parameters := [], returnType := some .boolean }, accessFlags := 1, code := some k6c0 }
/-- com/example/uni_repos/unirepos/mapping/ValueType -/
def k6 : Class := { plain "com/example/uni_repos/unirepos/mapping/ValueType" (some 5) with
  accessFlags := 16433
  interfaces := #[]
  cf := some (fileOf pool6 1 #[] #[{ accessFlags := 1, nameIndex := 202, descriptorIndex := 106, attributes := #[] }] 16433 35 #[] #[{ accessFlags := 16409, nameIndex := 5, descriptorIndex := 6, attributes := #[] }, { accessFlags := 16409, nameIndex := 9, descriptorIndex := 6, attributes := #[] }, { accessFlags := 16409, nameIndex := 12, descriptorIndex := 6, attributes := #[] }, { accessFlags := 16409, nameIndex := 15, descriptorIndex := 6, attributes := #[] }, { accessFlags := 16409, nameIndex := 18, descriptorIndex := 6, attributes := #[] }, { accessFlags := 16409, nameIndex := 21, descriptorIndex := 6, attributes := #[] }, { accessFlags := 16409, nameIndex := 24, descriptorIndex := 6, attributes := #[] }, { accessFlags := 18, nameIndex := 46, descriptorIndex := 47, attributes := #[] }, { accessFlags := 18, nameIndex := 50, descriptorIndex := 47, attributes := #[] }, { accessFlags := 4122, nameIndex := 27, descriptorIndex := 28, attributes := #[] }])
  fields := #[{ name := "STRING", type := (.object "com/example/uni_repos/unirepos/mapping/ValueType"), accessFlags := 16409, slot := 0, constantValue := 0 }, { name := "BOOLEAN", type := (.object "com/example/uni_repos/unirepos/mapping/ValueType"), accessFlags := 16409, slot := 1, constantValue := 0 }, { name := "INT", type := (.object "com/example/uni_repos/unirepos/mapping/ValueType"), accessFlags := 16409, slot := 2, constantValue := 0 }, { name := "LONG", type := (.object "com/example/uni_repos/unirepos/mapping/ValueType"), accessFlags := 16409, slot := 3, constantValue := 0 }, { name := "DOUBLE", type := (.object "com/example/uni_repos/unirepos/mapping/ValueType"), accessFlags := 16409, slot := 4, constantValue := 0 }, { name := "DATE", type := (.object "com/example/uni_repos/unirepos/mapping/ValueType"), accessFlags := 16409, slot := 5, constantValue := 0 }, { name := "POINT", type := (.object "com/example/uni_repos/unirepos/mapping/ValueType"), accessFlags := 16409, slot := 6, constantValue := 0 }, { name := "objectType", type := (.object "java/lang/Class"), accessFlags := 18, slot := 3, constantValue := 0 }, { name := "primitiveType", type := (.object "java/lang/Class"), accessFlags := 18, slot := 4, constantValue := 0 }, { name := "$VALUES", type := (.array (.object "com/example/uni_repos/unirepos/mapping/ValueType")), accessFlags := 4122, slot := 7, constantValue := 0 }]
  methods := #[k6m0]
  instanceTypes := #[(.object "java/lang/String"), .int, .int, (.object "java/lang/Class"), (.object "java/lang/Class")]
  staticTypes := #[(.object "com/example/uni_repos/unirepos/mapping/ValueType"), (.object "com/example/uni_repos/unirepos/mapping/ValueType"), (.object "com/example/uni_repos/unirepos/mapping/ValueType"), (.object "com/example/uni_repos/unirepos/mapping/ValueType"), (.object "com/example/uni_repos/unirepos/mapping/ValueType"), (.object "com/example/uni_repos/unirepos/mapping/ValueType"), (.object "com/example/uni_repos/unirepos/mapping/ValueType"), (.array (.object "com/example/uni_repos/unirepos/mapping/ValueType"))]
  resolved := Array.replicate 209 none
  statics := some 0 }

def pool7 : Array CpInfo := pool [(1, u "java/lang/Cloneable"), (0, .class_ 1), (0, u "java/lang/Object"), (0, .class_ 3)] 3

/-- java/lang/Cloneable -/
def k7 : Class := { plain "java/lang/Cloneable" (some 0) with
  accessFlags := 1537
  interfaces := #[]
  cf := some (fileOf pool7 2 #[] #[] 1537 4 #[] #[])
  fields := #[]
  methods := #[]
  instanceTypes := #[]
  staticTypes := #[]
  resolved := Array.replicate 8 none
  statics := none }

/-- the primitive boolean -/
def k8 : Class := { plain "boolean" none with kind := .primitive 'Z', accessFlags := 0x411 }
/-- [Z -/
def k9 : Class := { plain "[Z" (some 0) with kind := .array 8 .boolean, interfaces := #[7, 4], accessFlags := 1041 }

/-- the primitive byte -/
def k10 : Class := { plain "byte" none with kind := .primitive 'B', accessFlags := 0x411 }
/-- [B -/
def k11 : Class := { plain "[B" (some 0) with kind := .array 10 .byte, interfaces := #[7, 4], accessFlags := 1041 }

/-- the primitive int -/
def k12 : Class := { plain "int" none with kind := .primitive 'I', accessFlags := 0x411 }
/-- [I -/
def k13 : Class := { plain "[I" (some 0) with kind := .array 12 .int, interfaces := #[7, 4], accessFlags := 1041 }

/-- [Lcom/example/uni_repos/unirepos/mapping/ValueType; -/
def k14 : Class := { plain "[Lcom/example/uni_repos/unirepos/mapping/ValueType;" (some 0) with kind := .array 6 (.object "com/example/uni_repos/unirepos/mapping/ValueType"), interfaces := #[7, 4], accessFlags := 1041 }

def heap : Heap := #[{ cls := 6, slots := #[.ref 1, .ref 2, .ref 3, .ref 4, .ref 5, .ref 6, .ref 7, .null], vm := .statics 6 },
  { cls := 6, slots := #[.null, .int 0, .int 0, .null, .null], vm := .none },
  { cls := 6, slots := #[.null, .int 1, .int 0, .null, .null], vm := .none },
  { cls := 6, slots := #[.null, .int 2, .int 0, .null, .null], vm := .none },
  { cls := 6, slots := #[.null, .int 3, .int 0, .null, .null], vm := .none },
  { cls := 6, slots := #[.null, .int 4, .int 0, .null, .null], vm := .none },
  { cls := 6, slots := #[.null, .int 5, .int 0, .null, .null], vm := .none },
  { cls := 6, slots := #[.null, .int 6, .int 0, .null, .null], vm := .none }]
def classes : Array Class := #[k0, k1, k2, k3, k4, k5, k6, k7, k8, k9, k10, k11, k12, k13, k14]
def interned : List (Array UInt16 × Addr) := []
def slotsUsed : Nat := 43
def theMethod : MethodId := ⟨1, 1⟩
def args0 : Array Value := #[.int 5]
def aboutOver (below : List Frame) : State where
  vm := { classes := classes, interned := interned.toArray }
  heap := heap
  slotsUsed := slotsUsed
  threads := #[{ frames := .invoking theMethod args0 :: below }]
def below0 : List Frame := [.native { method := ⟨0, 0⟩, args := #[] }]
def about1 : State := aboutOver below0
def p0 : Program := .bare "" "" ""
def e0 : Env := launch0.env 0 0 0
theorem w_frames : about1.frames = Frame.invoking theMethod args0 :: below0 := rfl
set_option maxRecDepth 65536 in
theorem w_args : argsFit about1.vm theMethod args0 = true := by decide +kernel
set_option maxRecDepth 65536 in
theorem w_heap : heapFits about1 = true := by decide +kernel
set_option maxRecDepth 65536 in
theorem w_runnable : about1.curStatus? = some .runnable := by decide +kernel
set_option maxRecDepth 65536 in
theorem w_alone : about1.alone = true := by decide +kernel
set_option maxRecDepth 65536 in
theorem w_named : about1.methodNamed? x = some theMethod := by decide +kernel
set_option maxRecDepth 65536 in
theorem w_hears : about1.hears theMethod below0 = true := by decide +kernel
set_option maxRecDepth 65536 in
theorem w_ripe : about1.ripe theMethod args0 below0 = true := by decide +kernel
theorem w_running : about1.status = .running := rfl
set_option maxRecDepth 65536 in
theorem w_room : about1.hasRoom e0.platform room_1 = true :=
  launch0.hasRoom_least _ room_1 (by decide +kernel) (by decide +kernel) (by decide +kernel) (by decide +kernel) (by decide +kernel) (by decide +kernel)
theorem allAtoms_all (ts : List Jvm.Cond) (a : Array Jvm.Value) (st : Jvm.State) : (allAtoms ts).before a st = ts.all (fun c => c.before a st) := by
  induction ts with
  | nil => rfl
  | cons c t ih =>
    show (Jvm.Cond.and c (allAtoms t)).before a st = _
    rw [Jvm.Cond.before_and, ih, List.all_cons]
def words1 : List Jvm.Cond := Jvm.Cond.code x code maxLocals ret :: tables_1
/-- a 'code' word, met by the world's own term for the bytes: nothing is compared byte by byte -/
theorem code_word {y : MethodName} {bytes : ByteArray} {mx : Nat} {rt : Option FieldType} {a : Array Value} {s : State} {m : MethodId} {meth : Method} {c : Code} (h1 : s.methodNamed? y = some m) (h2 : s.vm.method? m = some meth) (h3 : meth.code = some c) (h4 : c.code = bytes)
    (h5 : (c.maxLocals == mx && c.exceptionTable.isEmpty && decide (c.maxStack ≤ mostOperands) && decide (meth.sig.returnType = rt) && !meth.locks && decide (parseMethodDescriptor y.desc = some meth.sig)) = true) : (Jvm.Cond.code y bytes mx rt).before a s = true := by
  simp only [Bool.and_eq_true, beq_iff_eq, Bool.not_eq_true', decide_eq_true_eq] at h5
  obtain ⟨⟨⟨⟨⟨g1, g2⟩, g3⟩, g4⟩, g5⟩, g6⟩ := h5
  simp [Cond.before, Cond.holds, Cond.value, h1, h2, h3, h4, g1, g2, g3, g4, g5, g6]
def isCode : Jvm.Cond → Bool
  | .code _ _ _ _ => true
  | _ => false
theorem all_split {L : List Jvm.Cond} {P : Jvm.Cond → Bool} (h1 : L.all (fun c => isCode c || P c) = true) (h2 : ∀ c ∈ L.filter isCode, P c = true) : L.all P = true := by
  refine List.all_eq_true.mpr fun c hc => ?_
  have h := List.all_eq_true.mp h1 c hc
  rcases Bool.eq_false_or_eq_true (isCode c) with hi | hi
  · exact h2 c (List.mem_filter.mpr ⟨hc, hi⟩)
  · simpa [hi] using h
set_option maxRecDepth 65536 in
theorem w_c0 : (Jvm.Cond.code x code maxLocals ret).before args0 about1 = true := code_word (m := ⟨1, 1⟩) (meth := k1m1) (c := k1c1) (by decide +kernel) rfl rfl rfl (by decide +kernel)
set_option maxRecDepth 65536 in
theorem w_c1 : (Jvm.Cond.code ({ cls := "com/example/uni_repos/unirepos/mapping/ValueType", name := "isOrdered", desc := "()Z" } : Jvm.MethodName) prog_29_method_6_code (1 : Nat) (Option.some Jvm.ClassFile.FieldType.boolean)).before args0 about1 = true := code_word (m := ⟨6, 0⟩) (meth := k6m0) (c := k6c0) (by decide +kernel) rfl rfl rfl (by decide +kernel)
def codes1 : List Jvm.Cond := [Jvm.Cond.code x code maxLocals ret, Jvm.Cond.code ({ cls := "com/example/uni_repos/unirepos/mapping/ValueType", name := "isOrdered", desc := "()Z" } : Jvm.MethodName) prog_29_method_6_code (1 : Nat) (Option.some Jvm.ClassFile.FieldType.boolean)]
set_option maxRecDepth 65536 in
theorem codes_eq : words1.filter isCode = codes1 := rfl
theorem w_codes : ∀ c ∈ words1.filter isCode, c.before args0 about1 = true := by
  rw [codes_eq]
  intro c hc
  simp only [codes1, List.mem_cons, List.not_mem_nil, or_false] at hc
  rcases hc with rfl | rfl
  · exact w_c0
  · exact w_c1
set_option maxRecDepth 65536 in
theorem w_t1 : (words1.take 24).all (fun c => isCode c || c.before args0 about1) = true := by decide +kernel
set_option maxRecDepth 65536 in
theorem w_t2 : (words1.drop 24).all (fun c => isCode c || c.before args0 about1) = true := by decide +kernel
theorem w_tables : (allAtoms (Jvm.Cond.code x code maxLocals ret :: tables_1)).before args0 about1 = true := by
  rw [allAtoms_all]
  show words1.all (fun c => c.before args0 about1) = true
  refine all_split ?_ w_codes
  rw [← List.take_append_drop 24 words1, List.all_append, w_t1, w_t2]
  rfl
set_option maxRecDepth 65536 in
theorem w_case : (Jvm.Cond.and given_1 narrow_1).before args0 about1 = true := by decide +kernel
theorem w_applies : (headSpec (Jvm.Cond.code x code maxLocals ret :: tables_1) room_1).applies x e0.platform about1 = true :=
  (Spec.applies_iff w_frames).mpr ⟨w_running, w_runnable, w_alone, w_named, w_hears, w_ripe, w_room, w_tables⟩
theorem atStart : AtStart classFile x code maxLocals ret World_1 tables_1 room_1 Calls_1 rest_1 Pre_1 launch0 p0 e0 about1 theMethod args0 below0 :=
  ⟨lists_1, trivial, launch0.admits_env _ _ _, launch0.least_env, fairChoices_fair.cas, fairChoices_fair.clock, w_frames, w_args, w_heap, w_applies, trivial, trivial, w_case⟩
end start1
theorem witness_1 : WitnessClaimed_1 := ⟨start1.p0, start1.e0, start1.about1, start1.theMethod, start1.args0, start1.below0, start1.atStart⟩
end Jvm.Pilot.@@N@@
