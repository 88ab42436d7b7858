import JvmDerived
import JvmDerived.Pilot.@@N@@Statement
import JvmDerived.Pilot.@@N@@Code
set_option linter.unusedVariables false
set_option linter.unusedSimpArgs false

namespace Jvm.Pilot.@@N@@
open Jvm Jvm.ClassFile Sem Op Lib Jvm.Free Jvm.Stand Jvm.LawKit Jvm.RoadKit Bundle Jvm.Pilot.@@N@@.Jvm.D
/-- from the frame g' at S' the run comes to the frame g at S -/
abbrev Go (p : Program) (e : Env) (below : List Frame) (S : State) (g : JFrame) (S' : State) (g' : JFrame) : Prop := ∀ t, Steps p.tables e below (S.setTop g) t → Steps p.tables e below (S'.setTop g') t

theorem own_fld {args : Array Value} {s : State} {t : Term} {x : Addr} {C n d : String} {k : Int32} (ht : t.eval args s none [] s = some (.ref x)) (h : (Jvm.Cond.eq (.field t C n d) (.int k)).value args s none s [] = some true) : Fld s s.heap x C n d (.int k) := by
  obtain ⟨y, z, h1, h2, h3, -⟩ := cmp_v (Or.inl h)
  have h2' : z = .int k := by simpa [Term.eval] using h2.symm
  subst h2'
  obtain ⟨u, rfl⟩ : ∃ u, y = .int u := by cases y <;> simp [Kin, Value.isRef] at h3 ⊢
  have h4 : u = k := by simpa [Jvm.Cond.value, h1, h2] using h
  subst h4
  exact Fld.start ((fld_at ht).symm.trans h1)

theorem own_m9 (x : Int32) : (x &&& 2147483647) % 9 = 0 ∨ (x &&& 2147483647) % 9 = 1 ∨ (x &&& 2147483647) % 9 = 2 ∨ (x &&& 2147483647) % 9 = 3 ∨ (x &&& 2147483647) % 9 = 4 ∨ (x &&& 2147483647) % 9 = 5 ∨ (x &&& 2147483647) % 9 = 6 ∨ (x &&& 2147483647) % 9 = 7 ∨ (x &&& 2147483647) % 9 = 8 := by
  have h1 := c_mask x 2147483647 31 (by decide) (by decide)
  have h2 := (c_irem (x &&& 2147483647) 9 9 (by decide)).1 (by omega)
  generalize (x &&& 2147483647) % 9 = k at h2 ⊢
  have e0 : (0 : Int32).toInt = 0 := by decide
  have e1 : (1 : Int32).toInt = 1 := by decide
  have e2 : (2 : Int32).toInt = 2 := by decide
  have e3 : (3 : Int32).toInt = 3 := by decide
  have e4 : (4 : Int32).toInt = 4 := by decide
  have e5 : (5 : Int32).toInt = 5 := by decide
  have e6 : (6 : Int32).toInt = 6 := by decide
  have e7 : (7 : Int32).toInt = 7 := by decide
  have e8 : (8 : Int32).toInt = 8 := by decide
  simp only [← Int32.toInt_inj, e0, e1, e2, e3, e4, e5, e6, e7, e8]
  omega

def pickF (p : Int32) (w0 w1 w2 w3 w4 w5 w6 w7 w8 : Addr) : Addr := if p = 0 then w0 else if p = 1 then w1 else if p = 2 then w2 else if p = 3 then w3 else if p = 4 then w4 else if p = 5 then w5 else if p = 6 then w6 else if p = 7 then w7 else w8
theorem dP_0 : decode method_3_code 0 = .ok (.iload_n 0, 1) := by decide +kernel
theorem dP_1 : decode method_3_code 1 = .ok (.ifCond .ne 7, 3) := by decide +kernel
theorem dP_4 : decode method_3_code 4 = .ok (.getstatic 20, 3) := by decide +kernel
theorem dP_7 : decode method_3_code 7 = .ok (.areturn, 1) := by decide +kernel
theorem dP_8 : decode method_3_code 8 = .ok (.iload_n 0, 1) := by decide +kernel
theorem dP_9 : decode method_3_code 9 = .ok (.iconst 1, 1) := by decide +kernel
theorem dP_10 : decode method_3_code 10 = .ok (.if_icmp .ne 7, 3) := by decide +kernel
theorem dP_13 : decode method_3_code 13 = .ok (.getstatic 24, 3) := by decide +kernel
theorem dP_16 : decode method_3_code 16 = .ok (.areturn, 1) := by decide +kernel
theorem dP_17 : decode method_3_code 17 = .ok (.iload_n 0, 1) := by decide +kernel
theorem dP_18 : decode method_3_code 18 = .ok (.iconst 2, 1) := by decide +kernel
theorem dP_19 : decode method_3_code 19 = .ok (.if_icmp .ne 7, 3) := by decide +kernel
theorem dP_22 : decode method_3_code 22 = .ok (.getstatic 27, 3) := by decide +kernel
theorem dP_25 : decode method_3_code 25 = .ok (.areturn, 1) := by decide +kernel
theorem dP_26 : decode method_3_code 26 = .ok (.iload_n 0, 1) := by decide +kernel
theorem dP_27 : decode method_3_code 27 = .ok (.iconst 3, 1) := by decide +kernel
theorem dP_28 : decode method_3_code 28 = .ok (.if_icmp .ne 7, 3) := by decide +kernel
theorem dP_31 : decode method_3_code 31 = .ok (.getstatic 30, 3) := by decide +kernel
theorem dP_34 : decode method_3_code 34 = .ok (.areturn, 1) := by decide +kernel
theorem dP_35 : decode method_3_code 35 = .ok (.iload_n 0, 1) := by decide +kernel
theorem dP_36 : decode method_3_code 36 = .ok (.iconst 4, 1) := by decide +kernel
theorem dP_37 : decode method_3_code 37 = .ok (.if_icmp .ne 7, 3) := by decide +kernel
theorem dP_40 : decode method_3_code 40 = .ok (.getstatic 33, 3) := by decide +kernel
theorem dP_43 : decode method_3_code 43 = .ok (.areturn, 1) := by decide +kernel
theorem dP_44 : decode method_3_code 44 = .ok (.iload_n 0, 1) := by decide +kernel
theorem dP_45 : decode method_3_code 45 = .ok (.iconst 5, 1) := by decide +kernel
theorem dP_46 : decode method_3_code 46 = .ok (.if_icmp .ne 7, 3) := by decide +kernel
theorem dP_49 : decode method_3_code 49 = .ok (.getstatic 36, 3) := by decide +kernel
theorem dP_52 : decode method_3_code 52 = .ok (.areturn, 1) := by decide +kernel
theorem dP_53 : decode method_3_code 53 = .ok (.iload_n 0, 1) := by decide +kernel
theorem dP_54 : decode method_3_code 54 = .ok (.bipush 6, 2) := by decide +kernel
theorem dP_56 : decode method_3_code 56 = .ok (.if_icmp .ne 7, 3) := by decide +kernel
theorem dP_59 : decode method_3_code 59 = .ok (.getstatic 39, 3) := by decide +kernel
theorem dP_62 : decode method_3_code 62 = .ok (.areturn, 1) := by decide +kernel
theorem dP_63 : decode method_3_code 63 = .ok (.iload_n 0, 1) := by decide +kernel
theorem dP_64 : decode method_3_code 64 = .ok (.bipush 7, 2) := by decide +kernel
theorem dP_66 : decode method_3_code 66 = .ok (.if_icmp .ne 7, 3) := by decide +kernel
theorem dP_69 : decode method_3_code 69 = .ok (.getstatic 42, 3) := by decide +kernel
theorem dP_72 : decode method_3_code 72 = .ok (.areturn, 1) := by decide +kernel
theorem dP_73 : decode method_3_code 73 = .ok (.getstatic 45, 3) := by decide +kernel
theorem dP_76 : decode method_3_code 76 = .ok (.areturn, 1) := by decide +kernel
theorem pnP : plainName "com/example/whisker/whisker/PrimitiveTypeSizePinLaw" = true := by first | (simp [plainName, overriddenIn]; done) | decide +kernel
theorem efP (m : MethodId) (p1 : Int32) : entryFrame m #[(.int p1)] 1 = mkF m 0 #[.val (.int p1)] [] := by first | (simp [entryFrame, mkF, argsToLocals, Value.category]; done) | rfl
def QP (Z : State) (p1 : Int32) (w0 : Addr) (w1 : Addr) (w2 : Addr) (w3 : Addr) (w4 : Addr) (w5 : Addr) (w6 : Addr) (w7 : Addr) (w8 : Addr) (r : Addr) (h0 : Heap) (n0 : Nat) (v : Option Value) (h : Heap) (L : List Loc) : Prop := v = some (.ref r) ∧ Fr n0 L ∧ h = h0
set_option maxRecDepth 65536 in
set_option maxHeartbeats 40000000 in
theorem rmP (l : Launch) (Z : State) (a0 : Array Value) (hw : ∀ d ∈ tables_1, d.before a0 Z = true) (ws : List Jvm.Cond) (p1 : Int32) (w0 : Addr) (w1 : Addr) (w2 : Addr) (w3 : Addr) (w4 : Addr) (w5 : Addr) (w6 : Addr) (w7 : Addr) (w8 : Addr) (r : Addr) (h0 : Heap) (n0 : Nat) (Z0 : n0 ≤ h0.size) (S0 : Sta Z h0 "com/example/whisker/whisker/PrimitiveType" "BOOLEAN" "Lcom/example/whisker/whisker/PrimitiveType;" (.ref w0)) (S1 : Sta Z h0 "com/example/whisker/whisker/PrimitiveType" "BYTE" "Lcom/example/whisker/whisker/PrimitiveType;" (.ref w1)) (S2 : Sta Z h0 "com/example/whisker/whisker/PrimitiveType" "SHORT" "Lcom/example/whisker/whisker/PrimitiveType;" (.ref w2)) (S3 : Sta Z h0 "com/example/whisker/whisker/PrimitiveType" "CHAR" "Lcom/example/whisker/whisker/PrimitiveType;" (.ref w3)) (S4 : Sta Z h0 "com/example/whisker/whisker/PrimitiveType" "INT" "Lcom/example/whisker/whisker/PrimitiveType;" (.ref w4)) (S5 : Sta Z h0 "com/example/whisker/whisker/PrimitiveType" "LONG" "Lcom/example/whisker/whisker/PrimitiveType;" (.ref w5)) (S6 : Sta Z h0 "com/example/whisker/whisker/PrimitiveType" "FLOAT" "Lcom/example/whisker/whisker/PrimitiveType;" (.ref w6)) (S7 : Sta Z h0 "com/example/whisker/whisker/PrimitiveType" "DOUBLE" "Lcom/example/whisker/whisker/PrimitiveType;" (.ref w7)) (S8 : Sta Z h0 "com/example/whisker/whisker/PrimitiveType" "VOID" "Lcom/example/whisker/whisker/PrimitiveType;" (.ref w8)) (hR : pickF p1 w0 w1 w2 w3 w4 w5 w6 w7 w8 = r) :
    MetFree l (⟨"com/example/whisker/whisker/PrimitiveTypeSizePinLaw", "pick", "(I)Lcom/example/whisker/whisker/PrimitiveType;"⟩ : MethodName) (head1 (Jvm.Cond.code (⟨"com/example/whisker/whisker/PrimitiveTypeSizePinLaw", "pick", "(I)Lcom/example/whisker/whisker/PrimitiveType;"⟩ : MethodName) method_3_code 1 (some (.object "com/example/whisker/whisker/PrimitiveType")) :: ws) ({ frames := 0, cells := 0, slots := 0, locals := 0 } : Room)) (fun a U => a = #[(.int p1)] ∧ Z.Warmed39 U.vm ∧ U.heap = h0) (fun _ _ _ _ _ => True) (fun _ U o U' => ∃ v L, o = .returned v ∧ QP Z p1 w0 w1 w2 w3 w4 w5 w6 w7 w8 r h0 n0 v U'.heap L ∧ FrameEnd U o U' L ({ frames := 0, cells := 0, slots := 0, locals := 0 } : Room).cells ({ frames := 0, cells := 0, slots := 0, locals := 0 } : Room).slots) := by
  refine MetFree.of_bodySF (plainFor_of_name pnP) hisR ?_
  intro p e s m args below meth c s₁ Bd hml0 hP hK
  obtain ⟨rfl, hZ, hh⟩ := hP
  have hx := Bd.exec
  have hby := Bd.bytes
  have hml : c.maxLocals = 1 := hml0
  have hown : s.vm.findClass "com/example/whisker/whisker/PrimitiveTypeSizePinLaw" = some m.cls := findClass_of_methodNamed Bd.named
  have hnm := (name_of_methodNamed Bd.named Bd.method).1
  have X0 : Stand p l e ({ frames := 0, cells := 0, slots := 0, locals := 0 } : Room) s m #[(.int p1)] below meth c s₁ [] 0 0 := Stand.of_body Bd
  have e0 : s₁.heap = h0 := by rw [← hh, Bd.state]; rfl
  have N0 := Fr.nil n0
  have pre0 : Go p e below s₁ (mkF m 0 #[.val (.int p1)] []) s₁ (entryFrame m #[(.int p1)] 1) := fun t k => castTop (efP m p1) k
  have pre1 : Go p e below s₁ (mkF m 1 #[.val (.int p1)] [(.int p1)]) s₁ (entryFrame m #[(.int p1)] 1) := fun t k => pre0 t (by
      show Steps p.tables e below (s₁.setTop (mkF m 0 #[.val (.int p1)] [])) t
      refine XS.iloadN X0.here hx rfl (hb hby dP_0) rfl ?_
      exact k)
  by_cases hc1 : p1 = (0 : Int32)
  · have pre2 : Go p e below s₁ (mkF m 4 #[.val (.int p1)] []) s₁ (entryFrame m #[(.int p1)] 1) := fun t k => pre1 t (XS.ifNo X0.here hx rfl (hb hby dP_1) rfl ((if0 _ _).trans (teq hc1).2) k)
    obtain ⟨T3, X3, e3, st3⟩ := getS2 X0 hx hZ hown (host := "") (Or.inl (hw _ (List.mem_of_getElem? (i := 5) rfl))) Via.refl e0 S0 (g := (mkF m 4 #[.val (.int p1)] [])) rfl (hb hby dP_4)
    have pre4 : Go p e below T3 (mkF m 7 #[.val (.int p1)] [(.ref w0)]) s₁ (entryFrame m #[(.int p1)] 1) := fun t k => pre2 t (st3 t k)
    obtain ⟨fs, hr, hrun, hended, hW, hsame⟩ := X3.leave (v := some (.ref w0)) (fun h => by rw [Bd.returns] at h; cases h)
    refine ⟨_, _, pre4 _ (retOut X3 hx Bd.returns rfl (Or.inr (Or.inr (Or.inr (Or.inr ⟨rfl, rfl, rfl⟩)))) (hb hby dP_7) hr), hrun, hended, _, _, rfl, ?_, ⟨_, rfl⟩, hW, hsame.mono (by decide) (by decide)⟩
    show QP Z p1 w0 w1 w2 w3 w4 w5 w6 w7 w8 r h0 n0 _ T3.heap _
    rw [e3]
    exact ⟨by rw [← hR]; simp [pickF, hc1], N0, rfl⟩
  · have pre5 : Go p e below s₁ (mkF m 8 #[.val (.int p1)] []) s₁ (entryFrame m #[(.int p1)] 1) := fun t k => pre1 t (XS.ifYes X0.here hx rfl (pc0 := 1) (pc' := 8) rfl (hb hby dP_1) rfl ((if0 _ _).trans (feq hc1).2) (by decide) (by decide) k)
    have pre6 : Go p e below s₁ (mkF m 10 #[.val (.int p1)] [(.int (1 : Int32)), (.int p1)]) s₁ (entryFrame m #[(.int p1)] 1) := fun t k => pre5 t (by
        show Steps p.tables e below (s₁.setTop (mkF m 8 #[.val (.int p1)] [])) t
        refine XS.iloadN X0.here hx rfl (hb hby dP_8) rfl ?_
        show Steps p.tables e below (s₁.setTop (mkF m 9 #[.val (.int p1)] [(.int p1)])) t
        refine XS.iconst X0.here hx rfl (hb hby dP_9) ?_
        exact k)
    by_cases hc10 : p1 = (1 : Int32)
    · have pre7 : Go p e below s₁ (mkF m 13 #[.val (.int p1)] []) s₁ (entryFrame m #[(.int p1)] 1) := fun t k => pre6 t (XS.icmpNo X0.here hx rfl (hb hby dP_10) rfl (teq hc10).2 k)
      obtain ⟨T8, X8, e8, st8⟩ := getS2 X0 hx hZ hown (host := "") (Or.inl (hw _ (List.mem_of_getElem? (i := 26) rfl))) Via.refl e0 S1 (g := (mkF m 13 #[.val (.int p1)] [])) rfl (hb hby dP_13)
      have pre9 : Go p e below T8 (mkF m 16 #[.val (.int p1)] [(.ref w1)]) s₁ (entryFrame m #[(.int p1)] 1) := fun t k => pre7 t (st8 t k)
      obtain ⟨fs, hr, hrun, hended, hW, hsame⟩ := X8.leave (v := some (.ref w1)) (fun h => by rw [Bd.returns] at h; cases h)
      refine ⟨_, _, pre9 _ (retOut X8 hx Bd.returns rfl (Or.inr (Or.inr (Or.inr (Or.inr ⟨rfl, rfl, rfl⟩)))) (hb hby dP_16) hr), hrun, hended, _, _, rfl, ?_, ⟨_, rfl⟩, hW, hsame.mono (by decide) (by decide)⟩
      show QP Z p1 w0 w1 w2 w3 w4 w5 w6 w7 w8 r h0 n0 _ T8.heap _
      rw [e8]
      exact ⟨by rw [← hR]; simp [pickF, hc1, hc10], N0, rfl⟩
    · have pre10 : Go p e below s₁ (mkF m 17 #[.val (.int p1)] []) s₁ (entryFrame m #[(.int p1)] 1) := fun t k => pre6 t (XS.icmpYes X0.here hx rfl (pc0 := 10) (pc' := 17) rfl (hb hby dP_10) rfl (feq hc10).2 (by decide) (by decide) k)
      have pre11 : Go p e below s₁ (mkF m 19 #[.val (.int p1)] [(.int (2 : Int32)), (.int p1)]) s₁ (entryFrame m #[(.int p1)] 1) := fun t k => pre10 t (by
          show Steps p.tables e below (s₁.setTop (mkF m 17 #[.val (.int p1)] [])) t
          refine XS.iloadN X0.here hx rfl (hb hby dP_17) rfl ?_
          show Steps p.tables e below (s₁.setTop (mkF m 18 #[.val (.int p1)] [(.int p1)])) t
          refine XS.iconst X0.here hx rfl (hb hby dP_18) ?_
          exact k)
      by_cases hc19 : p1 = (2 : Int32)
      · have pre12 : Go p e below s₁ (mkF m 22 #[.val (.int p1)] []) s₁ (entryFrame m #[(.int p1)] 1) := fun t k => pre11 t (XS.icmpNo X0.here hx rfl (hb hby dP_19) rfl (teq hc19).2 k)
        obtain ⟨T13, X13, e13, st13⟩ := getS2 X0 hx hZ hown (host := "") (Or.inl (hw _ (List.mem_of_getElem? (i := 24) rfl))) Via.refl e0 S2 (g := (mkF m 22 #[.val (.int p1)] [])) rfl (hb hby dP_22)
        have pre14 : Go p e below T13 (mkF m 25 #[.val (.int p1)] [(.ref w2)]) s₁ (entryFrame m #[(.int p1)] 1) := fun t k => pre12 t (st13 t k)
        obtain ⟨fs, hr, hrun, hended, hW, hsame⟩ := X13.leave (v := some (.ref w2)) (fun h => by rw [Bd.returns] at h; cases h)
        refine ⟨_, _, pre14 _ (retOut X13 hx Bd.returns rfl (Or.inr (Or.inr (Or.inr (Or.inr ⟨rfl, rfl, rfl⟩)))) (hb hby dP_25) hr), hrun, hended, _, _, rfl, ?_, ⟨_, rfl⟩, hW, hsame.mono (by decide) (by decide)⟩
        show QP Z p1 w0 w1 w2 w3 w4 w5 w6 w7 w8 r h0 n0 _ T13.heap _
        rw [e13]
        exact ⟨by rw [← hR]; simp [pickF, hc1, hc10, hc19], N0, rfl⟩
      · have pre15 : Go p e below s₁ (mkF m 26 #[.val (.int p1)] []) s₁ (entryFrame m #[(.int p1)] 1) := fun t k => pre11 t (XS.icmpYes X0.here hx rfl (pc0 := 19) (pc' := 26) rfl (hb hby dP_19) rfl (feq hc19).2 (by decide) (by decide) k)
        have pre16 : Go p e below s₁ (mkF m 28 #[.val (.int p1)] [(.int (3 : Int32)), (.int p1)]) s₁ (entryFrame m #[(.int p1)] 1) := fun t k => pre15 t (by
            show Steps p.tables e below (s₁.setTop (mkF m 26 #[.val (.int p1)] [])) t
            refine XS.iloadN X0.here hx rfl (hb hby dP_26) rfl ?_
            show Steps p.tables e below (s₁.setTop (mkF m 27 #[.val (.int p1)] [(.int p1)])) t
            refine XS.iconst X0.here hx rfl (hb hby dP_27) ?_
            exact k)
        by_cases hc28 : p1 = (3 : Int32)
        · have pre17 : Go p e below s₁ (mkF m 31 #[.val (.int p1)] []) s₁ (entryFrame m #[(.int p1)] 1) := fun t k => pre16 t (XS.icmpNo X0.here hx rfl (hb hby dP_28) rfl (teq hc28).2 k)
          obtain ⟨T18, X18, e18, st18⟩ := getS2 X0 hx hZ hown (host := "") (Or.inl (hw _ (List.mem_of_getElem? (i := 22) rfl))) Via.refl e0 S3 (g := (mkF m 31 #[.val (.int p1)] [])) rfl (hb hby dP_31)
          have pre19 : Go p e below T18 (mkF m 34 #[.val (.int p1)] [(.ref w3)]) s₁ (entryFrame m #[(.int p1)] 1) := fun t k => pre17 t (st18 t k)
          obtain ⟨fs, hr, hrun, hended, hW, hsame⟩ := X18.leave (v := some (.ref w3)) (fun h => by rw [Bd.returns] at h; cases h)
          refine ⟨_, _, pre19 _ (retOut X18 hx Bd.returns rfl (Or.inr (Or.inr (Or.inr (Or.inr ⟨rfl, rfl, rfl⟩)))) (hb hby dP_34) hr), hrun, hended, _, _, rfl, ?_, ⟨_, rfl⟩, hW, hsame.mono (by decide) (by decide)⟩
          show QP Z p1 w0 w1 w2 w3 w4 w5 w6 w7 w8 r h0 n0 _ T18.heap _
          rw [e18]
          exact ⟨by rw [← hR]; simp [pickF, hc1, hc10, hc19, hc28], N0, rfl⟩
        · have pre20 : Go p e below s₁ (mkF m 35 #[.val (.int p1)] []) s₁ (entryFrame m #[(.int p1)] 1) := fun t k => pre16 t (XS.icmpYes X0.here hx rfl (pc0 := 28) (pc' := 35) rfl (hb hby dP_28) rfl (feq hc28).2 (by decide) (by decide) k)
          have pre21 : Go p e below s₁ (mkF m 37 #[.val (.int p1)] [(.int (4 : Int32)), (.int p1)]) s₁ (entryFrame m #[(.int p1)] 1) := fun t k => pre20 t (by
              show Steps p.tables e below (s₁.setTop (mkF m 35 #[.val (.int p1)] [])) t
              refine XS.iloadN X0.here hx rfl (hb hby dP_35) rfl ?_
              show Steps p.tables e below (s₁.setTop (mkF m 36 #[.val (.int p1)] [(.int p1)])) t
              refine XS.iconst X0.here hx rfl (hb hby dP_36) ?_
              exact k)
          by_cases hc37 : p1 = (4 : Int32)
          · have pre22 : Go p e below s₁ (mkF m 40 #[.val (.int p1)] []) s₁ (entryFrame m #[(.int p1)] 1) := fun t k => pre21 t (XS.icmpNo X0.here hx rfl (hb hby dP_37) rfl (teq hc37).2 k)
            obtain ⟨T23, X23, e23, st23⟩ := getS2 X0 hx hZ hown (host := "") (Or.inl (hw _ (List.mem_of_getElem? (i := 30) rfl))) Via.refl e0 S4 (g := (mkF m 40 #[.val (.int p1)] [])) rfl (hb hby dP_40)
            have pre24 : Go p e below T23 (mkF m 43 #[.val (.int p1)] [(.ref w4)]) s₁ (entryFrame m #[(.int p1)] 1) := fun t k => pre22 t (st23 t k)
            obtain ⟨fs, hr, hrun, hended, hW, hsame⟩ := X23.leave (v := some (.ref w4)) (fun h => by rw [Bd.returns] at h; cases h)
            refine ⟨_, _, pre24 _ (retOut X23 hx Bd.returns rfl (Or.inr (Or.inr (Or.inr (Or.inr ⟨rfl, rfl, rfl⟩)))) (hb hby dP_43) hr), hrun, hended, _, _, rfl, ?_, ⟨_, rfl⟩, hW, hsame.mono (by decide) (by decide)⟩
            show QP Z p1 w0 w1 w2 w3 w4 w5 w6 w7 w8 r h0 n0 _ T23.heap _
            rw [e23]
            exact ⟨by rw [← hR]; simp [pickF, hc1, hc10, hc19, hc28, hc37], N0, rfl⟩
          · have pre25 : Go p e below s₁ (mkF m 44 #[.val (.int p1)] []) s₁ (entryFrame m #[(.int p1)] 1) := fun t k => pre21 t (XS.icmpYes X0.here hx rfl (pc0 := 37) (pc' := 44) rfl (hb hby dP_37) rfl (feq hc37).2 (by decide) (by decide) k)
            have pre26 : Go p e below s₁ (mkF m 46 #[.val (.int p1)] [(.int (5 : Int32)), (.int p1)]) s₁ (entryFrame m #[(.int p1)] 1) := fun t k => pre25 t (by
                show Steps p.tables e below (s₁.setTop (mkF m 44 #[.val (.int p1)] [])) t
                refine XS.iloadN X0.here hx rfl (hb hby dP_44) rfl ?_
                show Steps p.tables e below (s₁.setTop (mkF m 45 #[.val (.int p1)] [(.int p1)])) t
                refine XS.iconst X0.here hx rfl (hb hby dP_45) ?_
                exact k)
            by_cases hc46 : p1 = (5 : Int32)
            · have pre27 : Go p e below s₁ (mkF m 49 #[.val (.int p1)] []) s₁ (entryFrame m #[(.int p1)] 1) := fun t k => pre26 t (XS.icmpNo X0.here hx rfl (hb hby dP_46) rfl (teq hc46).2 k)
              obtain ⟨T28, X28, e28, st28⟩ := getS2 X0 hx hZ hown (host := "") (Or.inl (hw _ (List.mem_of_getElem? (i := 36) rfl))) Via.refl e0 S5 (g := (mkF m 49 #[.val (.int p1)] [])) rfl (hb hby dP_49)
              have pre29 : Go p e below T28 (mkF m 52 #[.val (.int p1)] [(.ref w5)]) s₁ (entryFrame m #[(.int p1)] 1) := fun t k => pre27 t (st28 t k)
              obtain ⟨fs, hr, hrun, hended, hW, hsame⟩ := X28.leave (v := some (.ref w5)) (fun h => by rw [Bd.returns] at h; cases h)
              refine ⟨_, _, pre29 _ (retOut X28 hx Bd.returns rfl (Or.inr (Or.inr (Or.inr (Or.inr ⟨rfl, rfl, rfl⟩)))) (hb hby dP_52) hr), hrun, hended, _, _, rfl, ?_, ⟨_, rfl⟩, hW, hsame.mono (by decide) (by decide)⟩
              show QP Z p1 w0 w1 w2 w3 w4 w5 w6 w7 w8 r h0 n0 _ T28.heap _
              rw [e28]
              exact ⟨by rw [← hR]; simp [pickF, hc1, hc10, hc19, hc28, hc37, hc46], N0, rfl⟩
            · have pre30 : Go p e below s₁ (mkF m 53 #[.val (.int p1)] []) s₁ (entryFrame m #[(.int p1)] 1) := fun t k => pre26 t (XS.icmpYes X0.here hx rfl (pc0 := 46) (pc' := 53) rfl (hb hby dP_46) rfl (feq hc46).2 (by decide) (by decide) k)
              have pre31 : Go p e below s₁ (mkF m 56 #[.val (.int p1)] [(.int (6 : Int32)), (.int p1)]) s₁ (entryFrame m #[(.int p1)] 1) := fun t k => pre30 t (by
                  show Steps p.tables e below (s₁.setTop (mkF m 53 #[.val (.int p1)] [])) t
                  refine XS.iloadN X0.here hx rfl (hb hby dP_53) rfl ?_
                  show Steps p.tables e below (s₁.setTop (mkF m 54 #[.val (.int p1)] [(.int p1)])) t
                  refine XS.bipush X0.here hx rfl (hb hby dP_54) ?_
                  exact k)
              by_cases hc56 : p1 = (6 : Int32)
              · have pre32 : Go p e below s₁ (mkF m 59 #[.val (.int p1)] []) s₁ (entryFrame m #[(.int p1)] 1) := fun t k => pre31 t (XS.icmpNo X0.here hx rfl (hb hby dP_56) rfl (teq hc56).2 k)
                obtain ⟨T33, X33, e33, st33⟩ := getS2 X0 hx hZ hown (host := "") (Or.inl (hw _ (List.mem_of_getElem? (i := 34) rfl))) Via.refl e0 S6 (g := (mkF m 59 #[.val (.int p1)] [])) rfl (hb hby dP_59)
                have pre34 : Go p e below T33 (mkF m 62 #[.val (.int p1)] [(.ref w6)]) s₁ (entryFrame m #[(.int p1)] 1) := fun t k => pre32 t (st33 t k)
                obtain ⟨fs, hr, hrun, hended, hW, hsame⟩ := X33.leave (v := some (.ref w6)) (fun h => by rw [Bd.returns] at h; cases h)
                refine ⟨_, _, pre34 _ (retOut X33 hx Bd.returns rfl (Or.inr (Or.inr (Or.inr (Or.inr ⟨rfl, rfl, rfl⟩)))) (hb hby dP_62) hr), hrun, hended, _, _, rfl, ?_, ⟨_, rfl⟩, hW, hsame.mono (by decide) (by decide)⟩
                show QP Z p1 w0 w1 w2 w3 w4 w5 w6 w7 w8 r h0 n0 _ T33.heap _
                rw [e33]
                exact ⟨by rw [← hR]; simp [pickF, hc1, hc10, hc19, hc28, hc37, hc46, hc56], N0, rfl⟩
              · have pre35 : Go p e below s₁ (mkF m 63 #[.val (.int p1)] []) s₁ (entryFrame m #[(.int p1)] 1) := fun t k => pre31 t (XS.icmpYes X0.here hx rfl (pc0 := 56) (pc' := 63) rfl (hb hby dP_56) rfl (feq hc56).2 (by decide) (by decide) k)
                have pre36 : Go p e below s₁ (mkF m 66 #[.val (.int p1)] [(.int (7 : Int32)), (.int p1)]) s₁ (entryFrame m #[(.int p1)] 1) := fun t k => pre35 t (by
                    show Steps p.tables e below (s₁.setTop (mkF m 63 #[.val (.int p1)] [])) t
                    refine XS.iloadN X0.here hx rfl (hb hby dP_63) rfl ?_
                    show Steps p.tables e below (s₁.setTop (mkF m 64 #[.val (.int p1)] [(.int p1)])) t
                    refine XS.bipush X0.here hx rfl (hb hby dP_64) ?_
                    exact k)
                by_cases hc66 : p1 = (7 : Int32)
                · have pre37 : Go p e below s₁ (mkF m 69 #[.val (.int p1)] []) s₁ (entryFrame m #[(.int p1)] 1) := fun t k => pre36 t (XS.icmpNo X0.here hx rfl (hb hby dP_66) rfl (teq hc66).2 k)
                  obtain ⟨T38, X38, e38, st38⟩ := getS2 X0 hx hZ hown (host := "") (Or.inl (hw _ (List.mem_of_getElem? (i := 28) rfl))) Via.refl e0 S7 (g := (mkF m 69 #[.val (.int p1)] [])) rfl (hb hby dP_69)
                  have pre39 : Go p e below T38 (mkF m 72 #[.val (.int p1)] [(.ref w7)]) s₁ (entryFrame m #[(.int p1)] 1) := fun t k => pre37 t (st38 t k)
                  obtain ⟨fs, hr, hrun, hended, hW, hsame⟩ := X38.leave (v := some (.ref w7)) (fun h => by rw [Bd.returns] at h; cases h)
                  refine ⟨_, _, pre39 _ (retOut X38 hx Bd.returns rfl (Or.inr (Or.inr (Or.inr (Or.inr ⟨rfl, rfl, rfl⟩)))) (hb hby dP_72) hr), hrun, hended, _, _, rfl, ?_, ⟨_, rfl⟩, hW, hsame.mono (by decide) (by decide)⟩
                  show QP Z p1 w0 w1 w2 w3 w4 w5 w6 w7 w8 r h0 n0 _ T38.heap _
                  rw [e38]
                  exact ⟨by rw [← hR]; simp [pickF, hc1, hc10, hc19, hc28, hc37, hc46, hc56, hc66], N0, rfl⟩
                · have pre40 : Go p e below s₁ (mkF m 73 #[.val (.int p1)] []) s₁ (entryFrame m #[(.int p1)] 1) := fun t k => pre36 t (XS.icmpYes X0.here hx rfl (pc0 := 66) (pc' := 73) rfl (hb hby dP_66) rfl (feq hc66).2 (by decide) (by decide) k)
                  obtain ⟨T41, X41, e41, st41⟩ := getS2 X0 hx hZ hown (host := "") (Or.inl (hw _ (List.mem_of_getElem? (i := 32) rfl))) Via.refl e0 S8 (g := (mkF m 73 #[.val (.int p1)] [])) rfl (hb hby dP_73)
                  have pre42 : Go p e below T41 (mkF m 76 #[.val (.int p1)] [(.ref w8)]) s₁ (entryFrame m #[(.int p1)] 1) := fun t k => pre40 t (st41 t k)
                  obtain ⟨fs, hr, hrun, hended, hW, hsame⟩ := X41.leave (v := some (.ref w8)) (fun h => by rw [Bd.returns] at h; cases h)
                  refine ⟨_, _, pre42 _ (retOut X41 hx Bd.returns rfl (Or.inr (Or.inr (Or.inr (Or.inr ⟨rfl, rfl, rfl⟩)))) (hb hby dP_76) hr), hrun, hended, _, _, rfl, ?_, ⟨_, rfl⟩, hW, hsame.mono (by decide) (by decide)⟩
                  show QP Z p1 w0 w1 w2 w3 w4 w5 w6 w7 w8 r h0 n0 _ T41.heap _
                  rw [e41]
                  exact ⟨by rw [← hR]; simp [pickF, hc1, hc10, hc19, hc28, hc37, hc46, hc56, hc66], N0, rfl⟩
theorem dO_0 : decode jdk_37_method_2_code 0 = .ok (.aload_n 0, 1) := by decide +kernel
theorem dO_1 : decode jdk_37_method_2_code 1 = .ok (.getfield 7, 3) := by decide +kernel
theorem dO_4 : decode jdk_37_method_2_code 4 = .ok (.ireturn, 1) := by decide +kernel
theorem pnO : plainName "java/lang/Enum" = true := by first | (simp [plainName, overriddenIn]; done) | decide +kernel
theorem efO (m : MethodId) (a1 : Addr) : entryFrame m #[(.ref a1)] 1 = mkF m 0 #[.val (.ref a1)] [] := by first | (simp [entryFrame, mkF, argsToLocals, Value.category]; done) | rfl
def QO (Z : State) (a1 : Addr) (r : Int32) (h0 : Heap) (n0 : Nat) (v : Option Value) (h : Heap) (L : List Loc) : Prop := v = some (.int r) ∧ Fr n0 L ∧ h = h0
set_option maxRecDepth 65536 in
set_option maxHeartbeats 40000000 in
theorem rmO (l : Launch) (Z : State) (a0 : Array Value) (hw : ∀ d ∈ tables_1, d.before a0 Z = true) (ws : List Jvm.Cond) (a1 : Addr) (r : Int32) (h0 : Heap) (n0 : Nat) (Z0 : n0 ≤ h0.size) (F1 : Fld Z h0 a1 "java/lang/Enum" "ordinal" "I" (.int r)) :
    MetFree l (⟨"java/lang/Enum", "ordinal", "()I"⟩ : MethodName) (head1 (Jvm.Cond.code (⟨"java/lang/Enum", "ordinal", "()I"⟩ : MethodName) jdk_37_method_2_code 1 (some .int) :: ws) ({ frames := 0, cells := 0, slots := 0, locals := 0 } : Room)) (fun a U => a = #[(.ref a1)] ∧ Z.Warmed39 U.vm ∧ U.heap = h0) (fun _ _ _ _ _ => True) (fun _ U o U' => ∃ v L, o = .returned v ∧ QO Z a1 r h0 n0 v U'.heap L ∧ FrameEnd U o U' L ({ frames := 0, cells := 0, slots := 0, locals := 0 } : Room).cells ({ frames := 0, cells := 0, slots := 0, locals := 0 } : Room).slots) := by
  refine MetFree.of_bodySF (plainFor_of_name pnO) hisR ?_
  intro p e s m args below meth c s₁ Bd hml0 hP hK
  obtain ⟨rfl, hZ, hh⟩ := hP
  have hx := Bd.exec
  have hby := Bd.bytes
  have hml : c.maxLocals = 1 := hml0
  have hown : s.vm.findClass "java/lang/Enum" = some m.cls := findClass_of_methodNamed Bd.named
  have hnm := (name_of_methodNamed Bd.named Bd.method).1
  have X0 : Stand p l e ({ frames := 0, cells := 0, slots := 0, locals := 0 } : Room) s m #[(.ref a1)] below meth c s₁ [] 0 0 := Stand.of_body Bd
  have e0 : s₁.heap = h0 := by rw [← hh, Bd.state]; rfl
  have N0 := Fr.nil n0
  have pre0 : Go p e below s₁ (mkF m 0 #[.val (.ref a1)] []) s₁ (entryFrame m #[(.ref a1)] 1) := fun t k => castTop (efO m a1) k
  have pre1 : Go p e below s₁ (mkF m 1 #[.val (.ref a1)] [(.ref a1)]) s₁ (entryFrame m #[(.ref a1)] 1) := fun t k => pre0 t (by
      show Steps p.tables e below (s₁.setTop (mkF m 0 #[.val (.ref a1)] [])) t
      refine XS.aloadN X0.here hx rfl (hb hby dO_0) rfl rfl ?_
      exact k)
  obtain ⟨T2, X2, e2, st2⟩ := getF X0 hx hZ hown (host := "") (Or.inl (hw _ (List.mem_of_getElem? (i := 20) rfl))) Via.refl e0 F1 (g := (mkF m 1 #[.val (.ref a1)] [(.ref a1)])) rfl rfl (hb hby dO_1)
  have pre3 : Go p e below T2 (mkF m 4 #[.val (.ref a1)] [(.int r)]) s₁ (entryFrame m #[(.ref a1)] 1) := fun t k => pre1 t (st2 t k)
  obtain ⟨fs, hr, hrun, hended, hW, hsame⟩ := X2.leave (v := some (.int r)) (fun h => by rw [Bd.returns] at h; cases h)
  refine ⟨_, _, pre3 _ (retOut X2 hx Bd.returns rfl (Or.inl ⟨rfl, Or.inl rfl, _, rfl⟩) (hb hby dO_4) hr), hrun, hended, _, _, rfl, ?_, ⟨_, rfl⟩, hW, hsame.mono (by decide) (by decide)⟩
  show QO Z a1 r h0 n0 _ T2.heap _
  rw [e2]
  exact ⟨rfl, N0, rfl⟩
def sizeF (o : Int32) : Int32 := if o = 8 then 0 else if o = 5 then 2 else if o = 7 then 2 else 1
theorem dS_0 : decode prog_13_method_10_code 0 = .ok (.aload_n 0, 1) := by decide +kernel
theorem dS_1 : decode prog_13_method_10_code 1 = .ok (.invokevirtual 90, 3) := by decide +kernel
theorem dS_4 : decode prog_13_method_10_code 4 = .ok (.tableswitch 36 5 8 #[34, 36, 34, 32], 32) := by decide +kernel
theorem dS_36 : decode prog_13_method_10_code 36 = .ok (.iconst 0, 1) := by decide +kernel
theorem dS_37 : decode prog_13_method_10_code 37 = .ok (.ireturn, 1) := by decide +kernel
theorem dS_38 : decode prog_13_method_10_code 38 = .ok (.iconst 2, 1) := by decide +kernel
theorem dS_39 : decode prog_13_method_10_code 39 = .ok (.ireturn, 1) := by decide +kernel
theorem dS_40 : decode prog_13_method_10_code 40 = .ok (.iconst 1, 1) := by decide +kernel
theorem dS_41 : decode prog_13_method_10_code 41 = .ok (.ireturn, 1) := by decide +kernel
theorem pnS : plainName "com/example/whisker/whisker/PrimitiveType" = true := by first | (simp [plainName, overriddenIn]; done) | decide +kernel
theorem pdS_0 : parseMethodDescriptor "()I" = some ⟨[], some .int⟩ := by decide +kernel
theorem efS (m : MethodId) (a1 : Addr) : entryFrame m #[(.ref a1)] 1 = mkF m 0 #[.val (.ref a1)] [] := by first | (simp [entryFrame, mkF, argsToLocals, Value.category]; done) | rfl
def QS (Z : State) (a1 : Addr) (o1 : Int32) (r : Int32) (h0 : Heap) (n0 : Nat) (v : Option Value) (h : Heap) (L : List Loc) : Prop := v = some (.int r) ∧ Fr n0 L ∧ h = h0
set_option maxRecDepth 65536 in
set_option maxHeartbeats 40000000 in
theorem rmS (l : Launch) (Z : State) (a0 : Array Value) (hw : ∀ d ∈ tables_1, d.before a0 Z = true) (ws : List Jvm.Cond) (a1 : Addr) (o1 : Int32) (r : Int32) (h0 : Heap) (n0 : Nat) (Z0 : n0 ≤ h0.size) (E1 : Exa Z h0 a1 "com/example/whisker/whisker/PrimitiveType") (F1 : Fld Z h0 a1 "java/lang/Enum" "ordinal" "I" (.int o1)) (ho : o1 = 0 ∨ o1 = 1 ∨ o1 = 2 ∨ o1 = 3 ∨ o1 = 4 ∨ o1 = 5 ∨ o1 = 6 ∨ o1 = 7 ∨ o1 = 8) (hR : sizeF o1 = r) :
    MetFree l (⟨"com/example/whisker/whisker/PrimitiveType", "size", "()I"⟩ : MethodName) (head1 (Jvm.Cond.code (⟨"com/example/whisker/whisker/PrimitiveType", "size", "()I"⟩ : MethodName) prog_13_method_10_code 1 (some .int) :: ws) ({ frames := 1, cells := 0, slots := 0, locals := 12 } : Room)) (fun a U => a = #[(.ref a1)] ∧ Z.Warmed39 U.vm ∧ U.heap = h0) (fun _ _ _ _ _ => True) (fun _ U o U' => ∃ v L, o = .returned v ∧ QS Z a1 o1 r h0 n0 v U'.heap L ∧ FrameEnd U o U' L ({ frames := 1, cells := 0, slots := 0, locals := 12 } : Room).cells ({ frames := 1, cells := 0, slots := 0, locals := 12 } : Room).slots) := by
  refine MetFree.of_bodySF (plainFor_of_name pnS) hisR ?_
  intro p e s m args below meth c s₁ Bd hml0 hP hK
  obtain ⟨rfl, hZ, hh⟩ := hP
  have hx := Bd.exec
  have hby := Bd.bytes
  have hml : c.maxLocals = 1 := hml0
  have hown : s.vm.findClass "com/example/whisker/whisker/PrimitiveType" = some m.cls := findClass_of_methodNamed Bd.named
  have hnm := (name_of_methodNamed Bd.named Bd.method).1
  have X0 : Stand p l e ({ frames := 1, cells := 0, slots := 0, locals := 12 } : Room) s m #[(.ref a1)] below meth c s₁ [] 0 0 := Stand.of_body Bd
  have e0 : s₁.heap = h0 := by rw [← hh, Bd.state]; rfl
  have N0 := Fr.nil n0
  have pre0 : Go p e below s₁ (mkF m 0 #[.val (.ref a1)] []) s₁ (entryFrame m #[(.ref a1)] 1) := fun t k => castTop (efS m a1) k
  rcases ho with hv1_0 | hv1_1 | hv1_2 | hv1_3 | hv1_4 | hv1_5 | hv1_6 | hv1_7 | hv1_8
  · have F1' : Fld Z h0 a1 "java/lang/Enum" "ordinal" "I" (.int 0) := hv1_0 ▸ F1
    have pre2 : Go p e below s₁ (mkF m 1 #[.val (.ref a1)] [(.ref a1)]) s₁ (entryFrame m #[(.ref a1)] 1) := fun t k => pre0 t (by
        show Steps p.tables e below (s₁.setTop (mkF m 0 #[.val (.ref a1)] [])) t
        refine XS.aloadN X0.here hx rfl (hb hby dS_0) rfl rfl ?_
        exact k)
    obtain ⟨cq3, kq3, q3a, q3b, q3c⟩ := isOf hZ e0 E1
    obtain ⟨_, _, ⟨T3, L3, k3, n3⟩, -, X3, ⟨Lc3, hQ3, l3, y3, z3⟩, st3⟩ := X0.virtualBackUp hx (x := (⟨"com/example/whisker/whisker/PrimitiveType", "ordinal", "()I"⟩ : MethodName)) (y := (⟨"java/lang/Enum", "ordinal", "()I"⟩ : MethodName)) (owner := "java/lang/Enum") hown (mvT hZ (hw _ (List.mem_of_getElem? (i := 13) rfl))) (mvT hZ (hw _ (List.mem_of_getElem? (i := 14) rfl))) (mvT hZ (hw _ (List.mem_of_getElem? (i := 15) rfl))) (by decide) (mvT hZ (hw _ (List.mem_of_getElem? (i := 17) rfl))) (mvT hZ (hw _ (List.mem_of_getElem? (i := 16) rfl))) (backOf (W := 0) (rmO l Z a0 hw [] a1 (0 : Int32) h0 n0 Z0 F1') hZ (hw _ (List.mem_of_getElem? (i := 19) rfl)) (hw _ (List.mem_of_getElem? (i := 18) rfl)) (by decide) (by decide)) q3a q3c (g := (mkF m 1 #[.val (.ref a1)] [(.ref a1)])) rfl (by rw [hml]; rfl) (Steps.refl _) (argsL := []) (rest := []) (lenOf pdS_0 rfl) rfl (by show 2 * 0 + _ ≤ _; exact Nat.le_of_eq rfl) (hb hby dS_1) (fun _ _ => ⟨rfl, e0, (by decide : 0 + 0 ≤ _), (by decide : 0 + 0 ≤ _)⟩)
    dsimp only [Pt.U, Pt.locs, Pt.cells, Pt.slots] at X3 l3 y3 z3 st3 hQ3
    subst l3 y3 z3
    obtain ⟨rfl, N3q, hq3⟩ := hQ3
    have N3 := Fr.app N0 N3q
    have pre4 : Go p e below T3 (mkF m 4 #[.val (.ref a1)] [(.int (0 : Int32))]) s₁ (entryFrame m #[(.ref a1)] 1) := fun t k => pre2 t (st3.trans k)
    have e3 : T3.heap = h0 := hq3
    have pre5 : Go p e below T3 (mkF m 41 #[.val (.ref a1)] [(.int (1 : Int32))]) s₁ (entryFrame m #[(.ref a1)] 1) := fun t k => pre4 t (by
        show Steps p.tables e below (T3.setTop (mkF m 4 #[.val (.ref a1)] [(.int (0 : Int32))])) t
        refine XS.tswOut X3.here hx rfl (pc0 := 4) (pc' := 40) rfl (hb hby dS_4) rfl (by decide) (by decide) (by decide) ?_
        show Steps p.tables e below (T3.setTop (mkF m 40 #[.val (.ref a1)] [])) t
        refine XS.iconst X3.here hx rfl (hb hby dS_40) ?_
        exact k)
    obtain ⟨fs, hr, hrun, hended, hW, hsame⟩ := X3.leave (v := some (.int (1 : Int32))) (fun h => by rw [Bd.returns] at h; cases h)
    refine ⟨_, _, pre5 _ (retOut X3 hx Bd.returns rfl (Or.inl ⟨rfl, Or.inl rfl, _, rfl⟩) (hb hby dS_41) hr), hrun, hended, _, _, rfl, ?_, ⟨_, rfl⟩, hW, hsame.mono (by decide) (by decide)⟩
    show QS Z a1 o1 r h0 n0 _ T3.heap _
    rw [e3]
    exact ⟨by rw [← hR]; simp [sizeF, hv1_0], N3, rfl⟩
  · have F1' : Fld Z h0 a1 "java/lang/Enum" "ordinal" "I" (.int 1) := hv1_1 ▸ F1
    have pre6 : Go p e below s₁ (mkF m 1 #[.val (.ref a1)] [(.ref a1)]) s₁ (entryFrame m #[(.ref a1)] 1) := fun t k => pre0 t (by
        show Steps p.tables e below (s₁.setTop (mkF m 0 #[.val (.ref a1)] [])) t
        refine XS.aloadN X0.here hx rfl (hb hby dS_0) rfl rfl ?_
        exact k)
    obtain ⟨cq7, kq7, q7a, q7b, q7c⟩ := isOf hZ e0 E1
    obtain ⟨_, _, ⟨T7, L7, k7, n7⟩, -, X7, ⟨Lc7, hQ7, l7, y7, z7⟩, st7⟩ := X0.virtualBackUp hx (x := (⟨"com/example/whisker/whisker/PrimitiveType", "ordinal", "()I"⟩ : MethodName)) (y := (⟨"java/lang/Enum", "ordinal", "()I"⟩ : MethodName)) (owner := "java/lang/Enum") hown (mvT hZ (hw _ (List.mem_of_getElem? (i := 13) rfl))) (mvT hZ (hw _ (List.mem_of_getElem? (i := 14) rfl))) (mvT hZ (hw _ (List.mem_of_getElem? (i := 15) rfl))) (by decide) (mvT hZ (hw _ (List.mem_of_getElem? (i := 17) rfl))) (mvT hZ (hw _ (List.mem_of_getElem? (i := 16) rfl))) (backOf (W := 0) (rmO l Z a0 hw [] a1 (1 : Int32) h0 n0 Z0 F1') hZ (hw _ (List.mem_of_getElem? (i := 19) rfl)) (hw _ (List.mem_of_getElem? (i := 18) rfl)) (by decide) (by decide)) q7a q7c (g := (mkF m 1 #[.val (.ref a1)] [(.ref a1)])) rfl (by rw [hml]; rfl) (Steps.refl _) (argsL := []) (rest := []) (lenOf pdS_0 rfl) rfl (by show 2 * 0 + _ ≤ _; exact Nat.le_of_eq rfl) (hb hby dS_1) (fun _ _ => ⟨rfl, e0, (by decide : 0 + 0 ≤ _), (by decide : 0 + 0 ≤ _)⟩)
    dsimp only [Pt.U, Pt.locs, Pt.cells, Pt.slots] at X7 l7 y7 z7 st7 hQ7
    subst l7 y7 z7
    obtain ⟨rfl, N7q, hq7⟩ := hQ7
    have N7 := Fr.app N0 N7q
    have pre8 : Go p e below T7 (mkF m 4 #[.val (.ref a1)] [(.int (1 : Int32))]) s₁ (entryFrame m #[(.ref a1)] 1) := fun t k => pre6 t (st7.trans k)
    have e7 : T7.heap = h0 := hq7
    have pre9 : Go p e below T7 (mkF m 41 #[.val (.ref a1)] [(.int (1 : Int32))]) s₁ (entryFrame m #[(.ref a1)] 1) := fun t k => pre8 t (by
        show Steps p.tables e below (T7.setTop (mkF m 4 #[.val (.ref a1)] [(.int (1 : Int32))])) t
        refine XS.tswOut X7.here hx rfl (pc0 := 4) (pc' := 40) rfl (hb hby dS_4) rfl (by decide) (by decide) (by decide) ?_
        show Steps p.tables e below (T7.setTop (mkF m 40 #[.val (.ref a1)] [])) t
        refine XS.iconst X7.here hx rfl (hb hby dS_40) ?_
        exact k)
    obtain ⟨fs, hr, hrun, hended, hW, hsame⟩ := X7.leave (v := some (.int (1 : Int32))) (fun h => by rw [Bd.returns] at h; cases h)
    refine ⟨_, _, pre9 _ (retOut X7 hx Bd.returns rfl (Or.inl ⟨rfl, Or.inl rfl, _, rfl⟩) (hb hby dS_41) hr), hrun, hended, _, _, rfl, ?_, ⟨_, rfl⟩, hW, hsame.mono (by decide) (by decide)⟩
    show QS Z a1 o1 r h0 n0 _ T7.heap _
    rw [e7]
    exact ⟨by rw [← hR]; simp [sizeF, hv1_1], N7, rfl⟩
  · have F1' : Fld Z h0 a1 "java/lang/Enum" "ordinal" "I" (.int 2) := hv1_2 ▸ F1
    have pre10 : Go p e below s₁ (mkF m 1 #[.val (.ref a1)] [(.ref a1)]) s₁ (entryFrame m #[(.ref a1)] 1) := fun t k => pre0 t (by
        show Steps p.tables e below (s₁.setTop (mkF m 0 #[.val (.ref a1)] [])) t
        refine XS.aloadN X0.here hx rfl (hb hby dS_0) rfl rfl ?_
        exact k)
    obtain ⟨cq11, kq11, q11a, q11b, q11c⟩ := isOf hZ e0 E1
    obtain ⟨_, _, ⟨T11, L11, k11, n11⟩, -, X11, ⟨Lc11, hQ11, l11, y11, z11⟩, st11⟩ := X0.virtualBackUp hx (x := (⟨"com/example/whisker/whisker/PrimitiveType", "ordinal", "()I"⟩ : MethodName)) (y := (⟨"java/lang/Enum", "ordinal", "()I"⟩ : MethodName)) (owner := "java/lang/Enum") hown (mvT hZ (hw _ (List.mem_of_getElem? (i := 13) rfl))) (mvT hZ (hw _ (List.mem_of_getElem? (i := 14) rfl))) (mvT hZ (hw _ (List.mem_of_getElem? (i := 15) rfl))) (by decide) (mvT hZ (hw _ (List.mem_of_getElem? (i := 17) rfl))) (mvT hZ (hw _ (List.mem_of_getElem? (i := 16) rfl))) (backOf (W := 0) (rmO l Z a0 hw [] a1 (2 : Int32) h0 n0 Z0 F1') hZ (hw _ (List.mem_of_getElem? (i := 19) rfl)) (hw _ (List.mem_of_getElem? (i := 18) rfl)) (by decide) (by decide)) q11a q11c (g := (mkF m 1 #[.val (.ref a1)] [(.ref a1)])) rfl (by rw [hml]; rfl) (Steps.refl _) (argsL := []) (rest := []) (lenOf pdS_0 rfl) rfl (by show 2 * 0 + _ ≤ _; exact Nat.le_of_eq rfl) (hb hby dS_1) (fun _ _ => ⟨rfl, e0, (by decide : 0 + 0 ≤ _), (by decide : 0 + 0 ≤ _)⟩)
    dsimp only [Pt.U, Pt.locs, Pt.cells, Pt.slots] at X11 l11 y11 z11 st11 hQ11
    subst l11 y11 z11
    obtain ⟨rfl, N11q, hq11⟩ := hQ11
    have N11 := Fr.app N0 N11q
    have pre12 : Go p e below T11 (mkF m 4 #[.val (.ref a1)] [(.int (2 : Int32))]) s₁ (entryFrame m #[(.ref a1)] 1) := fun t k => pre10 t (st11.trans k)
    have e11 : T11.heap = h0 := hq11
    have pre13 : Go p e below T11 (mkF m 41 #[.val (.ref a1)] [(.int (1 : Int32))]) s₁ (entryFrame m #[(.ref a1)] 1) := fun t k => pre12 t (by
        show Steps p.tables e below (T11.setTop (mkF m 4 #[.val (.ref a1)] [(.int (2 : Int32))])) t
        refine XS.tswOut X11.here hx rfl (pc0 := 4) (pc' := 40) rfl (hb hby dS_4) rfl (by decide) (by decide) (by decide) ?_
        show Steps p.tables e below (T11.setTop (mkF m 40 #[.val (.ref a1)] [])) t
        refine XS.iconst X11.here hx rfl (hb hby dS_40) ?_
        exact k)
    obtain ⟨fs, hr, hrun, hended, hW, hsame⟩ := X11.leave (v := some (.int (1 : Int32))) (fun h => by rw [Bd.returns] at h; cases h)
    refine ⟨_, _, pre13 _ (retOut X11 hx Bd.returns rfl (Or.inl ⟨rfl, Or.inl rfl, _, rfl⟩) (hb hby dS_41) hr), hrun, hended, _, _, rfl, ?_, ⟨_, rfl⟩, hW, hsame.mono (by decide) (by decide)⟩
    show QS Z a1 o1 r h0 n0 _ T11.heap _
    rw [e11]
    exact ⟨by rw [← hR]; simp [sizeF, hv1_2], N11, rfl⟩
  · have F1' : Fld Z h0 a1 "java/lang/Enum" "ordinal" "I" (.int 3) := hv1_3 ▸ F1
    have pre14 : Go p e below s₁ (mkF m 1 #[.val (.ref a1)] [(.ref a1)]) s₁ (entryFrame m #[(.ref a1)] 1) := fun t k => pre0 t (by
        show Steps p.tables e below (s₁.setTop (mkF m 0 #[.val (.ref a1)] [])) t
        refine XS.aloadN X0.here hx rfl (hb hby dS_0) rfl rfl ?_
        exact k)
    obtain ⟨cq15, kq15, q15a, q15b, q15c⟩ := isOf hZ e0 E1
    obtain ⟨_, _, ⟨T15, L15, k15, n15⟩, -, X15, ⟨Lc15, hQ15, l15, y15, z15⟩, st15⟩ := X0.virtualBackUp hx (x := (⟨"com/example/whisker/whisker/PrimitiveType", "ordinal", "()I"⟩ : MethodName)) (y := (⟨"java/lang/Enum", "ordinal", "()I"⟩ : MethodName)) (owner := "java/lang/Enum") hown (mvT hZ (hw _ (List.mem_of_getElem? (i := 13) rfl))) (mvT hZ (hw _ (List.mem_of_getElem? (i := 14) rfl))) (mvT hZ (hw _ (List.mem_of_getElem? (i := 15) rfl))) (by decide) (mvT hZ (hw _ (List.mem_of_getElem? (i := 17) rfl))) (mvT hZ (hw _ (List.mem_of_getElem? (i := 16) rfl))) (backOf (W := 0) (rmO l Z a0 hw [] a1 (3 : Int32) h0 n0 Z0 F1') hZ (hw _ (List.mem_of_getElem? (i := 19) rfl)) (hw _ (List.mem_of_getElem? (i := 18) rfl)) (by decide) (by decide)) q15a q15c (g := (mkF m 1 #[.val (.ref a1)] [(.ref a1)])) rfl (by rw [hml]; rfl) (Steps.refl _) (argsL := []) (rest := []) (lenOf pdS_0 rfl) rfl (by show 2 * 0 + _ ≤ _; exact Nat.le_of_eq rfl) (hb hby dS_1) (fun _ _ => ⟨rfl, e0, (by decide : 0 + 0 ≤ _), (by decide : 0 + 0 ≤ _)⟩)
    dsimp only [Pt.U, Pt.locs, Pt.cells, Pt.slots] at X15 l15 y15 z15 st15 hQ15
    subst l15 y15 z15
    obtain ⟨rfl, N15q, hq15⟩ := hQ15
    have N15 := Fr.app N0 N15q
    have pre16 : Go p e below T15 (mkF m 4 #[.val (.ref a1)] [(.int (3 : Int32))]) s₁ (entryFrame m #[(.ref a1)] 1) := fun t k => pre14 t (st15.trans k)
    have e15 : T15.heap = h0 := hq15
    have pre17 : Go p e below T15 (mkF m 41 #[.val (.ref a1)] [(.int (1 : Int32))]) s₁ (entryFrame m #[(.ref a1)] 1) := fun t k => pre16 t (by
        show Steps p.tables e below (T15.setTop (mkF m 4 #[.val (.ref a1)] [(.int (3 : Int32))])) t
        refine XS.tswOut X15.here hx rfl (pc0 := 4) (pc' := 40) rfl (hb hby dS_4) rfl (by decide) (by decide) (by decide) ?_
        show Steps p.tables e below (T15.setTop (mkF m 40 #[.val (.ref a1)] [])) t
        refine XS.iconst X15.here hx rfl (hb hby dS_40) ?_
        exact k)
    obtain ⟨fs, hr, hrun, hended, hW, hsame⟩ := X15.leave (v := some (.int (1 : Int32))) (fun h => by rw [Bd.returns] at h; cases h)
    refine ⟨_, _, pre17 _ (retOut X15 hx Bd.returns rfl (Or.inl ⟨rfl, Or.inl rfl, _, rfl⟩) (hb hby dS_41) hr), hrun, hended, _, _, rfl, ?_, ⟨_, rfl⟩, hW, hsame.mono (by decide) (by decide)⟩
    show QS Z a1 o1 r h0 n0 _ T15.heap _
    rw [e15]
    exact ⟨by rw [← hR]; simp [sizeF, hv1_3], N15, rfl⟩
  · have F1' : Fld Z h0 a1 "java/lang/Enum" "ordinal" "I" (.int 4) := hv1_4 ▸ F1
    have pre18 : Go p e below s₁ (mkF m 1 #[.val (.ref a1)] [(.ref a1)]) s₁ (entryFrame m #[(.ref a1)] 1) := fun t k => pre0 t (by
        show Steps p.tables e below (s₁.setTop (mkF m 0 #[.val (.ref a1)] [])) t
        refine XS.aloadN X0.here hx rfl (hb hby dS_0) rfl rfl ?_
        exact k)
    obtain ⟨cq19, kq19, q19a, q19b, q19c⟩ := isOf hZ e0 E1
    obtain ⟨_, _, ⟨T19, L19, k19, n19⟩, -, X19, ⟨Lc19, hQ19, l19, y19, z19⟩, st19⟩ := X0.virtualBackUp hx (x := (⟨"com/example/whisker/whisker/PrimitiveType", "ordinal", "()I"⟩ : MethodName)) (y := (⟨"java/lang/Enum", "ordinal", "()I"⟩ : MethodName)) (owner := "java/lang/Enum") hown (mvT hZ (hw _ (List.mem_of_getElem? (i := 13) rfl))) (mvT hZ (hw _ (List.mem_of_getElem? (i := 14) rfl))) (mvT hZ (hw _ (List.mem_of_getElem? (i := 15) rfl))) (by decide) (mvT hZ (hw _ (List.mem_of_getElem? (i := 17) rfl))) (mvT hZ (hw _ (List.mem_of_getElem? (i := 16) rfl))) (backOf (W := 0) (rmO l Z a0 hw [] a1 (4 : Int32) h0 n0 Z0 F1') hZ (hw _ (List.mem_of_getElem? (i := 19) rfl)) (hw _ (List.mem_of_getElem? (i := 18) rfl)) (by decide) (by decide)) q19a q19c (g := (mkF m 1 #[.val (.ref a1)] [(.ref a1)])) rfl (by rw [hml]; rfl) (Steps.refl _) (argsL := []) (rest := []) (lenOf pdS_0 rfl) rfl (by show 2 * 0 + _ ≤ _; exact Nat.le_of_eq rfl) (hb hby dS_1) (fun _ _ => ⟨rfl, e0, (by decide : 0 + 0 ≤ _), (by decide : 0 + 0 ≤ _)⟩)
    dsimp only [Pt.U, Pt.locs, Pt.cells, Pt.slots] at X19 l19 y19 z19 st19 hQ19
    subst l19 y19 z19
    obtain ⟨rfl, N19q, hq19⟩ := hQ19
    have N19 := Fr.app N0 N19q
    have pre20 : Go p e below T19 (mkF m 4 #[.val (.ref a1)] [(.int (4 : Int32))]) s₁ (entryFrame m #[(.ref a1)] 1) := fun t k => pre18 t (st19.trans k)
    have e19 : T19.heap = h0 := hq19
    have pre21 : Go p e below T19 (mkF m 41 #[.val (.ref a1)] [(.int (1 : Int32))]) s₁ (entryFrame m #[(.ref a1)] 1) := fun t k => pre20 t (by
        show Steps p.tables e below (T19.setTop (mkF m 4 #[.val (.ref a1)] [(.int (4 : Int32))])) t
        refine XS.tswOut X19.here hx rfl (pc0 := 4) (pc' := 40) rfl (hb hby dS_4) rfl (by decide) (by decide) (by decide) ?_
        show Steps p.tables e below (T19.setTop (mkF m 40 #[.val (.ref a1)] [])) t
        refine XS.iconst X19.here hx rfl (hb hby dS_40) ?_
        exact k)
    obtain ⟨fs, hr, hrun, hended, hW, hsame⟩ := X19.leave (v := some (.int (1 : Int32))) (fun h => by rw [Bd.returns] at h; cases h)
    refine ⟨_, _, pre21 _ (retOut X19 hx Bd.returns rfl (Or.inl ⟨rfl, Or.inl rfl, _, rfl⟩) (hb hby dS_41) hr), hrun, hended, _, _, rfl, ?_, ⟨_, rfl⟩, hW, hsame.mono (by decide) (by decide)⟩
    show QS Z a1 o1 r h0 n0 _ T19.heap _
    rw [e19]
    exact ⟨by rw [← hR]; simp [sizeF, hv1_4], N19, rfl⟩
  · have F1' : Fld Z h0 a1 "java/lang/Enum" "ordinal" "I" (.int 5) := hv1_5 ▸ F1
    have pre22 : Go p e below s₁ (mkF m 1 #[.val (.ref a1)] [(.ref a1)]) s₁ (entryFrame m #[(.ref a1)] 1) := fun t k => pre0 t (by
        show Steps p.tables e below (s₁.setTop (mkF m 0 #[.val (.ref a1)] [])) t
        refine XS.aloadN X0.here hx rfl (hb hby dS_0) rfl rfl ?_
        exact k)
    obtain ⟨cq23, kq23, q23a, q23b, q23c⟩ := isOf hZ e0 E1
    obtain ⟨_, _, ⟨T23, L23, k23, n23⟩, -, X23, ⟨Lc23, hQ23, l23, y23, z23⟩, st23⟩ := X0.virtualBackUp hx (x := (⟨"com/example/whisker/whisker/PrimitiveType", "ordinal", "()I"⟩ : MethodName)) (y := (⟨"java/lang/Enum", "ordinal", "()I"⟩ : MethodName)) (owner := "java/lang/Enum") hown (mvT hZ (hw _ (List.mem_of_getElem? (i := 13) rfl))) (mvT hZ (hw _ (List.mem_of_getElem? (i := 14) rfl))) (mvT hZ (hw _ (List.mem_of_getElem? (i := 15) rfl))) (by decide) (mvT hZ (hw _ (List.mem_of_getElem? (i := 17) rfl))) (mvT hZ (hw _ (List.mem_of_getElem? (i := 16) rfl))) (backOf (W := 0) (rmO l Z a0 hw [] a1 (5 : Int32) h0 n0 Z0 F1') hZ (hw _ (List.mem_of_getElem? (i := 19) rfl)) (hw _ (List.mem_of_getElem? (i := 18) rfl)) (by decide) (by decide)) q23a q23c (g := (mkF m 1 #[.val (.ref a1)] [(.ref a1)])) rfl (by rw [hml]; rfl) (Steps.refl _) (argsL := []) (rest := []) (lenOf pdS_0 rfl) rfl (by show 2 * 0 + _ ≤ _; exact Nat.le_of_eq rfl) (hb hby dS_1) (fun _ _ => ⟨rfl, e0, (by decide : 0 + 0 ≤ _), (by decide : 0 + 0 ≤ _)⟩)
    dsimp only [Pt.U, Pt.locs, Pt.cells, Pt.slots] at X23 l23 y23 z23 st23 hQ23
    subst l23 y23 z23
    obtain ⟨rfl, N23q, hq23⟩ := hQ23
    have N23 := Fr.app N0 N23q
    have pre24 : Go p e below T23 (mkF m 4 #[.val (.ref a1)] [(.int (5 : Int32))]) s₁ (entryFrame m #[(.ref a1)] 1) := fun t k => pre22 t (st23.trans k)
    have e23 : T23.heap = h0 := hq23
    have pre25 : Go p e below T23 (mkF m 39 #[.val (.ref a1)] [(.int (2 : Int32))]) s₁ (entryFrame m #[(.ref a1)] 1) := fun t k => pre24 t (by
        show Steps p.tables e below (T23.setTop (mkF m 4 #[.val (.ref a1)] [(.int (5 : Int32))])) t
        refine XS.tswIn X23.here hx rfl (pc0 := 4) (pc' := 38) (o := 34) rfl (hb hby dS_4) rfl (by decide) (by decide) (by decide) (by decide) ?_
        show Steps p.tables e below (T23.setTop (mkF m 38 #[.val (.ref a1)] [])) t
        refine XS.iconst X23.here hx rfl (hb hby dS_38) ?_
        exact k)
    obtain ⟨fs, hr, hrun, hended, hW, hsame⟩ := X23.leave (v := some (.int (2 : Int32))) (fun h => by rw [Bd.returns] at h; cases h)
    refine ⟨_, _, pre25 _ (retOut X23 hx Bd.returns rfl (Or.inl ⟨rfl, Or.inl rfl, _, rfl⟩) (hb hby dS_39) hr), hrun, hended, _, _, rfl, ?_, ⟨_, rfl⟩, hW, hsame.mono (by decide) (by decide)⟩
    show QS Z a1 o1 r h0 n0 _ T23.heap _
    rw [e23]
    exact ⟨by rw [← hR]; simp [sizeF, hv1_5], N23, rfl⟩
  · have F1' : Fld Z h0 a1 "java/lang/Enum" "ordinal" "I" (.int 6) := hv1_6 ▸ F1
    have pre26 : Go p e below s₁ (mkF m 1 #[.val (.ref a1)] [(.ref a1)]) s₁ (entryFrame m #[(.ref a1)] 1) := fun t k => pre0 t (by
        show Steps p.tables e below (s₁.setTop (mkF m 0 #[.val (.ref a1)] [])) t
        refine XS.aloadN X0.here hx rfl (hb hby dS_0) rfl rfl ?_
        exact k)
    obtain ⟨cq27, kq27, q27a, q27b, q27c⟩ := isOf hZ e0 E1
    obtain ⟨_, _, ⟨T27, L27, k27, n27⟩, -, X27, ⟨Lc27, hQ27, l27, y27, z27⟩, st27⟩ := X0.virtualBackUp hx (x := (⟨"com/example/whisker/whisker/PrimitiveType", "ordinal", "()I"⟩ : MethodName)) (y := (⟨"java/lang/Enum", "ordinal", "()I"⟩ : MethodName)) (owner := "java/lang/Enum") hown (mvT hZ (hw _ (List.mem_of_getElem? (i := 13) rfl))) (mvT hZ (hw _ (List.mem_of_getElem? (i := 14) rfl))) (mvT hZ (hw _ (List.mem_of_getElem? (i := 15) rfl))) (by decide) (mvT hZ (hw _ (List.mem_of_getElem? (i := 17) rfl))) (mvT hZ (hw _ (List.mem_of_getElem? (i := 16) rfl))) (backOf (W := 0) (rmO l Z a0 hw [] a1 (6 : Int32) h0 n0 Z0 F1') hZ (hw _ (List.mem_of_getElem? (i := 19) rfl)) (hw _ (List.mem_of_getElem? (i := 18) rfl)) (by decide) (by decide)) q27a q27c (g := (mkF m 1 #[.val (.ref a1)] [(.ref a1)])) rfl (by rw [hml]; rfl) (Steps.refl _) (argsL := []) (rest := []) (lenOf pdS_0 rfl) rfl (by show 2 * 0 + _ ≤ _; exact Nat.le_of_eq rfl) (hb hby dS_1) (fun _ _ => ⟨rfl, e0, (by decide : 0 + 0 ≤ _), (by decide : 0 + 0 ≤ _)⟩)
    dsimp only [Pt.U, Pt.locs, Pt.cells, Pt.slots] at X27 l27 y27 z27 st27 hQ27
    subst l27 y27 z27
    obtain ⟨rfl, N27q, hq27⟩ := hQ27
    have N27 := Fr.app N0 N27q
    have pre28 : Go p e below T27 (mkF m 4 #[.val (.ref a1)] [(.int (6 : Int32))]) s₁ (entryFrame m #[(.ref a1)] 1) := fun t k => pre26 t (st27.trans k)
    have e27 : T27.heap = h0 := hq27
    have pre29 : Go p e below T27 (mkF m 41 #[.val (.ref a1)] [(.int (1 : Int32))]) s₁ (entryFrame m #[(.ref a1)] 1) := fun t k => pre28 t (by
        show Steps p.tables e below (T27.setTop (mkF m 4 #[.val (.ref a1)] [(.int (6 : Int32))])) t
        refine XS.tswIn X27.here hx rfl (pc0 := 4) (pc' := 40) (o := 36) rfl (hb hby dS_4) rfl (by decide) (by decide) (by decide) (by decide) ?_
        show Steps p.tables e below (T27.setTop (mkF m 40 #[.val (.ref a1)] [])) t
        refine XS.iconst X27.here hx rfl (hb hby dS_40) ?_
        exact k)
    obtain ⟨fs, hr, hrun, hended, hW, hsame⟩ := X27.leave (v := some (.int (1 : Int32))) (fun h => by rw [Bd.returns] at h; cases h)
    refine ⟨_, _, pre29 _ (retOut X27 hx Bd.returns rfl (Or.inl ⟨rfl, Or.inl rfl, _, rfl⟩) (hb hby dS_41) hr), hrun, hended, _, _, rfl, ?_, ⟨_, rfl⟩, hW, hsame.mono (by decide) (by decide)⟩
    show QS Z a1 o1 r h0 n0 _ T27.heap _
    rw [e27]
    exact ⟨by rw [← hR]; simp [sizeF, hv1_6], N27, rfl⟩
  · have F1' : Fld Z h0 a1 "java/lang/Enum" "ordinal" "I" (.int 7) := hv1_7 ▸ F1
    have pre30 : Go p e below s₁ (mkF m 1 #[.val (.ref a1)] [(.ref a1)]) s₁ (entryFrame m #[(.ref a1)] 1) := fun t k => pre0 t (by
        show Steps p.tables e below (s₁.setTop (mkF m 0 #[.val (.ref a1)] [])) t
        refine XS.aloadN X0.here hx rfl (hb hby dS_0) rfl rfl ?_
        exact k)
    obtain ⟨cq31, kq31, q31a, q31b, q31c⟩ := isOf hZ e0 E1
    obtain ⟨_, _, ⟨T31, L31, k31, n31⟩, -, X31, ⟨Lc31, hQ31, l31, y31, z31⟩, st31⟩ := X0.virtualBackUp hx (x := (⟨"com/example/whisker/whisker/PrimitiveType", "ordinal", "()I"⟩ : MethodName)) (y := (⟨"java/lang/Enum", "ordinal", "()I"⟩ : MethodName)) (owner := "java/lang/Enum") hown (mvT hZ (hw _ (List.mem_of_getElem? (i := 13) rfl))) (mvT hZ (hw _ (List.mem_of_getElem? (i := 14) rfl))) (mvT hZ (hw _ (List.mem_of_getElem? (i := 15) rfl))) (by decide) (mvT hZ (hw _ (List.mem_of_getElem? (i := 17) rfl))) (mvT hZ (hw _ (List.mem_of_getElem? (i := 16) rfl))) (backOf (W := 0) (rmO l Z a0 hw [] a1 (7 : Int32) h0 n0 Z0 F1') hZ (hw _ (List.mem_of_getElem? (i := 19) rfl)) (hw _ (List.mem_of_getElem? (i := 18) rfl)) (by decide) (by decide)) q31a q31c (g := (mkF m 1 #[.val (.ref a1)] [(.ref a1)])) rfl (by rw [hml]; rfl) (Steps.refl _) (argsL := []) (rest := []) (lenOf pdS_0 rfl) rfl (by show 2 * 0 + _ ≤ _; exact Nat.le_of_eq rfl) (hb hby dS_1) (fun _ _ => ⟨rfl, e0, (by decide : 0 + 0 ≤ _), (by decide : 0 + 0 ≤ _)⟩)
    dsimp only [Pt.U, Pt.locs, Pt.cells, Pt.slots] at X31 l31 y31 z31 st31 hQ31
    subst l31 y31 z31
    obtain ⟨rfl, N31q, hq31⟩ := hQ31
    have N31 := Fr.app N0 N31q
    have pre32 : Go p e below T31 (mkF m 4 #[.val (.ref a1)] [(.int (7 : Int32))]) s₁ (entryFrame m #[(.ref a1)] 1) := fun t k => pre30 t (st31.trans k)
    have e31 : T31.heap = h0 := hq31
    have pre33 : Go p e below T31 (mkF m 39 #[.val (.ref a1)] [(.int (2 : Int32))]) s₁ (entryFrame m #[(.ref a1)] 1) := fun t k => pre32 t (by
        show Steps p.tables e below (T31.setTop (mkF m 4 #[.val (.ref a1)] [(.int (7 : Int32))])) t
        refine XS.tswIn X31.here hx rfl (pc0 := 4) (pc' := 38) (o := 34) rfl (hb hby dS_4) rfl (by decide) (by decide) (by decide) (by decide) ?_
        show Steps p.tables e below (T31.setTop (mkF m 38 #[.val (.ref a1)] [])) t
        refine XS.iconst X31.here hx rfl (hb hby dS_38) ?_
        exact k)
    obtain ⟨fs, hr, hrun, hended, hW, hsame⟩ := X31.leave (v := some (.int (2 : Int32))) (fun h => by rw [Bd.returns] at h; cases h)
    refine ⟨_, _, pre33 _ (retOut X31 hx Bd.returns rfl (Or.inl ⟨rfl, Or.inl rfl, _, rfl⟩) (hb hby dS_39) hr), hrun, hended, _, _, rfl, ?_, ⟨_, rfl⟩, hW, hsame.mono (by decide) (by decide)⟩
    show QS Z a1 o1 r h0 n0 _ T31.heap _
    rw [e31]
    exact ⟨by rw [← hR]; simp [sizeF, hv1_7], N31, rfl⟩
  · have F1' : Fld Z h0 a1 "java/lang/Enum" "ordinal" "I" (.int 8) := hv1_8 ▸ F1
    have pre34 : Go p e below s₁ (mkF m 1 #[.val (.ref a1)] [(.ref a1)]) s₁ (entryFrame m #[(.ref a1)] 1) := fun t k => pre0 t (by
        show Steps p.tables e below (s₁.setTop (mkF m 0 #[.val (.ref a1)] [])) t
        refine XS.aloadN X0.here hx rfl (hb hby dS_0) rfl rfl ?_
        exact k)
    obtain ⟨cq35, kq35, q35a, q35b, q35c⟩ := isOf hZ e0 E1
    obtain ⟨_, _, ⟨T35, L35, k35, n35⟩, -, X35, ⟨Lc35, hQ35, l35, y35, z35⟩, st35⟩ := X0.virtualBackUp hx (x := (⟨"com/example/whisker/whisker/PrimitiveType", "ordinal", "()I"⟩ : MethodName)) (y := (⟨"java/lang/Enum", "ordinal", "()I"⟩ : MethodName)) (owner := "java/lang/Enum") hown (mvT hZ (hw _ (List.mem_of_getElem? (i := 13) rfl))) (mvT hZ (hw _ (List.mem_of_getElem? (i := 14) rfl))) (mvT hZ (hw _ (List.mem_of_getElem? (i := 15) rfl))) (by decide) (mvT hZ (hw _ (List.mem_of_getElem? (i := 17) rfl))) (mvT hZ (hw _ (List.mem_of_getElem? (i := 16) rfl))) (backOf (W := 0) (rmO l Z a0 hw [] a1 (8 : Int32) h0 n0 Z0 F1') hZ (hw _ (List.mem_of_getElem? (i := 19) rfl)) (hw _ (List.mem_of_getElem? (i := 18) rfl)) (by decide) (by decide)) q35a q35c (g := (mkF m 1 #[.val (.ref a1)] [(.ref a1)])) rfl (by rw [hml]; rfl) (Steps.refl _) (argsL := []) (rest := []) (lenOf pdS_0 rfl) rfl (by show 2 * 0 + _ ≤ _; exact Nat.le_of_eq rfl) (hb hby dS_1) (fun _ _ => ⟨rfl, e0, (by decide : 0 + 0 ≤ _), (by decide : 0 + 0 ≤ _)⟩)
    dsimp only [Pt.U, Pt.locs, Pt.cells, Pt.slots] at X35 l35 y35 z35 st35 hQ35
    subst l35 y35 z35
    obtain ⟨rfl, N35q, hq35⟩ := hQ35
    have N35 := Fr.app N0 N35q
    have pre36 : Go p e below T35 (mkF m 4 #[.val (.ref a1)] [(.int (8 : Int32))]) s₁ (entryFrame m #[(.ref a1)] 1) := fun t k => pre34 t (st35.trans k)
    have e35 : T35.heap = h0 := hq35
    have pre37 : Go p e below T35 (mkF m 37 #[.val (.ref a1)] [(.int (0 : Int32))]) s₁ (entryFrame m #[(.ref a1)] 1) := fun t k => pre36 t (by
        show Steps p.tables e below (T35.setTop (mkF m 4 #[.val (.ref a1)] [(.int (8 : Int32))])) t
        refine XS.tswIn X35.here hx rfl (pc0 := 4) (pc' := 36) (o := 32) rfl (hb hby dS_4) rfl (by decide) (by decide) (by decide) (by decide) ?_
        show Steps p.tables e below (T35.setTop (mkF m 36 #[.val (.ref a1)] [])) t
        refine XS.iconst X35.here hx rfl (hb hby dS_36) ?_
        exact k)
    obtain ⟨fs, hr, hrun, hended, hW, hsame⟩ := X35.leave (v := some (.int (0 : Int32))) (fun h => by rw [Bd.returns] at h; cases h)
    refine ⟨_, _, pre37 _ (retOut X35 hx Bd.returns rfl (Or.inl ⟨rfl, Or.inl rfl, _, rfl⟩) (hb hby dS_37) hr), hrun, hended, _, _, rfl, ?_, ⟨_, rfl⟩, hW, hsame.mono (by decide) (by decide)⟩
    show QS Z a1 o1 r h0 n0 _ T35.heap _
    rw [e35]
    exact ⟨by rw [← hR]; simp [sizeF, hv1_8], N35, rfl⟩
theorem pnL : plainName "com/example/whisker/whisker/PrimitiveTypeSizePinLaw" = true := by first | (simp [plainName, overriddenIn]; done) | decide +kernel
theorem pdL_0 : parseMethodDescriptor "(I)Lcom/example/whisker/whisker/PrimitiveType;" = some ⟨[.int], some (.object "com/example/whisker/whisker/PrimitiveType")⟩ := by decide +kernel
theorem pdL_1 : parseMethodDescriptor "()I" = some ⟨[], some .int⟩ := by decide +kernel
theorem efL (m : MethodId) (p1 : Int32) : entryFrame m #[(.int p1)] maxLocals = mkF m 0 #[.val (.int p1), .unset, .unset, .unset] [] := by first | (simp [entryFrame, mkF, argsToLocals, Value.category, maxLocals]; done) | rfl
def QL (Z : State) (p1 : Int32) (w0 : Addr) (w1 : Addr) (w2 : Addr) (w3 : Addr) (w4 : Addr) (w5 : Addr) (w6 : Addr) (w7 : Addr) (w8 : Addr) (h0 : Heap) (n0 : Nat) (v : Option Value) (h : Heap) (L : List Loc) : Prop := v = some (.int 1) ∧ Fr n0 L
set_option maxRecDepth 65536 in
set_option maxHeartbeats 40000000 in
theorem rmL (l : Launch) (Z : State) (a0 : Array Value) (hw : ∀ d ∈ tables_1, d.before a0 Z = true) (ws : List Jvm.Cond) (p1 : Int32) (w0 : Addr) (w1 : Addr) (w2 : Addr) (w3 : Addr) (w4 : Addr) (w5 : Addr) (w6 : Addr) (w7 : Addr) (w8 : Addr) (h0 : Heap) (n0 : Nat) (Z0 : n0 ≤ h0.size) (S0 : Sta Z h0 "com/example/whisker/whisker/PrimitiveType" "BOOLEAN" "Lcom/example/whisker/whisker/PrimitiveType;" (.ref w0)) (S1 : Sta Z h0 "com/example/whisker/whisker/PrimitiveType" "BYTE" "Lcom/example/whisker/whisker/PrimitiveType;" (.ref w1)) (S2 : Sta Z h0 "com/example/whisker/whisker/PrimitiveType" "SHORT" "Lcom/example/whisker/whisker/PrimitiveType;" (.ref w2)) (S3 : Sta Z h0 "com/example/whisker/whisker/PrimitiveType" "CHAR" "Lcom/example/whisker/whisker/PrimitiveType;" (.ref w3)) (S4 : Sta Z h0 "com/example/whisker/whisker/PrimitiveType" "INT" "Lcom/example/whisker/whisker/PrimitiveType;" (.ref w4)) (S5 : Sta Z h0 "com/example/whisker/whisker/PrimitiveType" "LONG" "Lcom/example/whisker/whisker/PrimitiveType;" (.ref w5)) (S6 : Sta Z h0 "com/example/whisker/whisker/PrimitiveType" "FLOAT" "Lcom/example/whisker/whisker/PrimitiveType;" (.ref w6)) (S7 : Sta Z h0 "com/example/whisker/whisker/PrimitiveType" "DOUBLE" "Lcom/example/whisker/whisker/PrimitiveType;" (.ref w7)) (S8 : Sta Z h0 "com/example/whisker/whisker/PrimitiveType" "VOID" "Lcom/example/whisker/whisker/PrimitiveType;" (.ref w8)) (E0 : Exa Z h0 w0 "com/example/whisker/whisker/PrimitiveType") (E1 : Exa Z h0 w1 "com/example/whisker/whisker/PrimitiveType") (E2 : Exa Z h0 w2 "com/example/whisker/whisker/PrimitiveType") (E3 : Exa Z h0 w3 "com/example/whisker/whisker/PrimitiveType") (E4 : Exa Z h0 w4 "com/example/whisker/whisker/PrimitiveType") (E5 : Exa Z h0 w5 "com/example/whisker/whisker/PrimitiveType") (E6 : Exa Z h0 w6 "com/example/whisker/whisker/PrimitiveType") (E7 : Exa Z h0 w7 "com/example/whisker/whisker/PrimitiveType") (E8 : Exa Z h0 w8 "com/example/whisker/whisker/PrimitiveType") (F0 : Fld Z h0 w0 "java/lang/Enum" "ordinal" "I" (.int 0)) (F1 : Fld Z h0 w1 "java/lang/Enum" "ordinal" "I" (.int 1)) (F2 : Fld Z h0 w2 "java/lang/Enum" "ordinal" "I" (.int 2)) (F3 : Fld Z h0 w3 "java/lang/Enum" "ordinal" "I" (.int 3)) (F4 : Fld Z h0 w4 "java/lang/Enum" "ordinal" "I" (.int 4)) (F5 : Fld Z h0 w5 "java/lang/Enum" "ordinal" "I" (.int 5)) (F6 : Fld Z h0 w6 "java/lang/Enum" "ordinal" "I" (.int 6)) (F7 : Fld Z h0 w7 "java/lang/Enum" "ordinal" "I" (.int 7)) (F8 : Fld Z h0 w8 "java/lang/Enum" "ordinal" "I" (.int 8)) :
    MetFree l x (head1 (Jvm.Cond.code x code maxLocals ret :: ws) room_1) (fun a U => a = #[(.int p1)] ∧ Z.Warmed39 U.vm ∧ U.heap = h0) (fun _ _ _ _ _ => True) (fun _ U o U' => ∃ v L, o = .returned v ∧ QL Z p1 w0 w1 w2 w3 w4 w5 w6 w7 w8 h0 n0 v U'.heap L ∧ FrameEnd U o U' L room_1.cells room_1.slots) := by
  refine MetFree.of_bodySF (plainFor_of_name pnL) hisR ?_
  intro p e s m args below meth c s₁ Bd hml0 hP hK
  obtain ⟨rfl, hZ, hh⟩ := hP
  have hx := Bd.exec
  have hby := Bd.bytes
  have hml : c.maxLocals = 4 := hml0
  have hown : s.vm.findClass "com/example/whisker/whisker/PrimitiveTypeSizePinLaw" = some m.cls := findClass_of_methodNamed Bd.named
  have hnm := (name_of_methodNamed Bd.named Bd.method).1
  have X0 : Stand p l e room_1 s m #[(.int p1)] below meth c s₁ [] 0 0 := Stand.of_body Bd
  have e0 : s₁.heap = h0 := by rw [← hh, Bd.state]; rfl
  have N0 := Fr.nil n0
  have pre0 : Go p e below s₁ (mkF m 0 #[.val (.int p1), .unset, .unset, .unset] []) s₁ (entryFrame m #[(.int p1)] maxLocals) := fun t k => castTop (efL m p1) k
  have pre1 : Go p e below s₁ (mkF m 7 #[.val (.int p1), .unset, .unset, .unset] [(.int ((p1 &&& (2147483647 : Int32)) % (9 : Int32)))]) s₁ (entryFrame m #[(.int p1)] maxLocals) := fun t k => pre0 t (by
      show Steps p.tables e below (s₁.setTop (mkF m 0 #[.val (.int p1), .unset, .unset, .unset] [])) t
      refine XS.iloadN X0.here hx rfl (hb hby at_0) rfl ?_
      show Steps p.tables e below (s₁.setTop (mkF m 1 #[.val (.int p1), .unset, .unset, .unset] [(.int p1)])) t
      refine X0.ldcInt hx hown (mvT hZ (hw _ (List.mem_of_getElem? (i := 0) rfl))) (g := (mkF m 1 #[.val (.int p1), .unset, .unset, .unset] [(.int p1)])) rfl (hb hby at_1) _ ?_
      show Steps p.tables e below (s₁.setTop (mkF m 3 #[.val (.int p1), .unset, .unset, .unset] [(.int (2147483647 : Int32)), (.int p1)])) t
      refine XS.iand X0.here hx rfl (hb hby at_3) rfl ?_
      show Steps p.tables e below (s₁.setTop (mkF m 4 #[.val (.int p1), .unset, .unset, .unset] [(.int (p1 &&& (2147483647 : Int32)))])) t
      refine XS.bipush X0.here hx rfl (hb hby at_4) ?_
      show Steps p.tables e below (s₁.setTop (mkF m 6 #[.val (.int p1), .unset, .unset, .unset] [(.int (9 : Int32)), (.int (p1 &&& (2147483647 : Int32)))])) t
      refine iremM X0 hx rfl (hb hby at_6) rfl (by decide) ?_
      exact k)
  rcases own_m9 p1 with hv2_0 | hv2_1 | hv2_2 | hv2_3 | hv2_4 | hv2_5 | hv2_6 | hv2_7 | hv2_8
  · have pre3 : Go p e below s₁ (mkF m 9 #[.val (.int p1), .val (.int (0 : Int32)), .unset, .unset] [(.int (0 : Int32))]) s₁ (entryFrame m #[(.int p1)] maxLocals) := fun t k => pre1 t (by
        show Steps p.tables e below (s₁.setTop (mkF m 7 #[.val (.int p1), .unset, .unset, .unset] [(.int ((p1 &&& (2147483647 : Int32)) % (9 : Int32)))])) t
        refine XS.istoreN X0.here hx rfl (hb hby at_7) rfl (l' := #[.val (.int p1), .val (.int (0 : Int32)), .unset, .unset]) (by rw [hv2_0]; rfl) ?_
        show Steps p.tables e below (s₁.setTop (mkF m 8 #[.val (.int p1), .val (.int (0 : Int32)), .unset, .unset] [])) t
        refine XS.iloadN X0.here hx rfl (hb hby at_8) rfl ?_
        exact k)
    obtain ⟨_, _, ⟨T4, L4, k4, n4⟩, -, X4, ⟨Lc4, hQ4, l4, y4, z4⟩, st4⟩ := Jvm.LawKit.callS X0 hx (y := (⟨"com/example/whisker/whisker/PrimitiveTypeSizePinLaw", "pick", "(I)Lcom/example/whisker/whisker/PrimitiveType;"⟩ : MethodName)) hown (mvT hZ (hw _ (List.mem_of_getElem? (i := 1) rfl))) (mvT hZ (hw _ (List.mem_of_getElem? (i := 2) rfl))) (mvT hZ (hw _ (List.mem_of_getElem? (i := 3) rfl))) (mvT hZ (hw _ (List.mem_of_getElem? (i := 4) rfl))) (by decide) (backOf (W := 0) (rmP l Z a0 hw [] (0 : Int32) w0 w1 w2 w3 w4 w5 w6 w7 w8 w0 h0 n0 Z0 S0 S1 S2 S3 S4 S5 S6 S7 S8 (by simp [pickF])) hZ (hw _ (List.mem_of_getElem? (i := 4) rfl)) (hw _ (List.mem_of_getElem? (i := 3) rfl)) (by decide) (by decide)) (g := (mkF m 9 #[.val (.int p1), .val (.int (0 : Int32)), .unset, .unset] [(.int (0 : Int32))])) rfl (by rw [hml]; rfl) (argsL := [(.int (0 : Int32))]) (rest := []) (lenOf pdL_0 rfl) rfl (by show 2 * 0 + _ ≤ _; exact Nat.le_of_eq rfl) (hb hby at_9) (fun _ _ => ⟨rfl, e0, (by decide : 0 + 0 ≤ _), (by decide : 0 + 0 ≤ _)⟩)
    dsimp only [Pt.U, Pt.locs, Pt.cells, Pt.slots] at X4 l4 y4 z4 st4 hQ4
    subst l4 y4 z4
    obtain ⟨rfl, N4q, hq4⟩ := hQ4
    have N4 := Fr.app N0 N4q
    have pre5 : Go p e below T4 (mkF m 12 #[.val (.int p1), .val (.int (0 : Int32)), .unset, .unset] [(.ref w0)]) s₁ (entryFrame m #[(.int p1)] maxLocals) := fun t k => pre3 t (st4 t k)
    have e4 : T4.heap = h0 := hq4
    have pre6 : Go p e below T4 (mkF m 16 #[.val (.int p1), .val (.int (0 : Int32)), .val (.ref w0), .unset] [(.int (8 : Int32)), (.int (0 : Int32))]) s₁ (entryFrame m #[(.int p1)] maxLocals) := fun t k => pre5 t (by
        show Steps p.tables e below (T4.setTop (mkF m 12 #[.val (.int p1), .val (.int (0 : Int32)), .unset, .unset] [(.ref w0)])) t
        refine XS.astoreN X4.here hx rfl (hb hby at_12) rfl rfl (l' := #[.val (.int p1), .val (.int (0 : Int32)), .val (.ref w0), .unset]) rfl ?_
        show Steps p.tables e below (T4.setTop (mkF m 13 #[.val (.int p1), .val (.int (0 : Int32)), .val (.ref w0), .unset] [])) t
        refine XS.iloadN X4.here hx rfl (hb hby at_13) rfl ?_
        show Steps p.tables e below (T4.setTop (mkF m 14 #[.val (.int p1), .val (.int (0 : Int32)), .val (.ref w0), .unset] [(.int (0 : Int32))])) t
        refine XS.bipush X4.here hx rfl (hb hby at_14) ?_
        exact k)
    have pre7 : Go p e below T4 (mkF m 24 #[.val (.int p1), .val (.int (0 : Int32)), .val (.ref w0), .unset] []) s₁ (entryFrame m #[(.int p1)] maxLocals) := fun t k => pre6 t (XS.icmpYes X4.here hx rfl (pc0 := 16) (pc' := 24) rfl (hb hby at_16) rfl (feq (by decide : ¬ ((0 : Int32) = (8 : Int32)))).2 (by decide) (by decide) k)
    have pre8 : Go p e below T4 (mkF m 26 #[.val (.int p1), .val (.int (0 : Int32)), .val (.ref w0), .unset] [(.int (5 : Int32)), (.int (0 : Int32))]) s₁ (entryFrame m #[(.int p1)] maxLocals) := fun t k => pre7 t (by
        show Steps p.tables e below (T4.setTop (mkF m 24 #[.val (.int p1), .val (.int (0 : Int32)), .val (.ref w0), .unset] [])) t
        refine XS.iloadN X4.here hx rfl (hb hby at_24) rfl ?_
        show Steps p.tables e below (T4.setTop (mkF m 25 #[.val (.int p1), .val (.int (0 : Int32)), .val (.ref w0), .unset] [(.int (0 : Int32))])) t
        refine XS.iconst X4.here hx rfl (hb hby at_25) ?_
        exact k)
    have pre9 : Go p e below T4 (mkF m 29 #[.val (.int p1), .val (.int (0 : Int32)), .val (.ref w0), .unset] []) s₁ (entryFrame m #[(.int p1)] maxLocals) := fun t k => pre8 t (XS.icmpNo X4.here hx rfl (hb hby at_26) rfl (feq (by decide : ¬ ((0 : Int32) = (5 : Int32)))).1 k)
    have pre10 : Go p e below T4 (mkF m 32 #[.val (.int p1), .val (.int (0 : Int32)), .val (.ref w0), .unset] [(.int (7 : Int32)), (.int (0 : Int32))]) s₁ (entryFrame m #[(.int p1)] maxLocals) := fun t k => pre9 t (by
        show Steps p.tables e below (T4.setTop (mkF m 29 #[.val (.int p1), .val (.int (0 : Int32)), .val (.ref w0), .unset] [])) t
        refine XS.iloadN X4.here hx rfl (hb hby at_29) rfl ?_
        show Steps p.tables e below (T4.setTop (mkF m 30 #[.val (.int p1), .val (.int (0 : Int32)), .val (.ref w0), .unset] [(.int (0 : Int32))])) t
        refine XS.bipush X4.here hx rfl (hb hby at_30) ?_
        exact k)
    have pre11 : Go p e below T4 (mkF m 40 #[.val (.int p1), .val (.int (0 : Int32)), .val (.ref w0), .unset] []) s₁ (entryFrame m #[(.int p1)] maxLocals) := fun t k => pre10 t (XS.icmpYes X4.here hx rfl (pc0 := 32) (pc' := 40) rfl (hb hby at_32) rfl (feq (by decide : ¬ ((0 : Int32) = (7 : Int32)))).2 (by decide) (by decide) k)
    have pre12 : Go p e below T4 (mkF m 43 #[.val (.int p1), .val (.int (0 : Int32)), .val (.ref w0), .val (.int (1 : Int32))] [(.ref w0)]) s₁ (entryFrame m #[(.int p1)] maxLocals) := fun t k => pre11 t (by
        show Steps p.tables e below (T4.setTop (mkF m 40 #[.val (.int p1), .val (.int (0 : Int32)), .val (.ref w0), .unset] [])) t
        refine XS.iconst X4.here hx rfl (hb hby at_40) ?_
        show Steps p.tables e below (T4.setTop (mkF m 41 #[.val (.int p1), .val (.int (0 : Int32)), .val (.ref w0), .unset] [(.int (1 : Int32))])) t
        refine XS.istoreN X4.here hx rfl (hb hby at_41) rfl (l' := #[.val (.int p1), .val (.int (0 : Int32)), .val (.ref w0), .val (.int (1 : Int32))]) rfl ?_
        show Steps p.tables e below (T4.setTop (mkF m 42 #[.val (.int p1), .val (.int (0 : Int32)), .val (.ref w0), .val (.int (1 : Int32))] [])) t
        refine XS.aloadN X4.here hx rfl (hb hby at_42) rfl rfl ?_
        exact k)
    obtain ⟨cq13, kq13, q13a, q13b, q13c⟩ := isOf hZ e4 E0
    obtain ⟨_, _, ⟨T13, L13, k13, n13⟩, -, X13, ⟨Lc13, hQ13, l13, y13, z13⟩, st13⟩ := X4.virtualBack hx (y := (⟨"com/example/whisker/whisker/PrimitiveType", "size", "()I"⟩ : MethodName)) (z := (⟨"com/example/whisker/whisker/PrimitiveType", "size", "()I"⟩ : MethodName)) hown (mvT hZ (hw _ (List.mem_of_getElem? (i := 8) rfl))) (mvT hZ (hw _ (List.mem_of_getElem? (i := 9) rfl))) (notFace_of_selects (args := #[]) (mvT hZ (hw _ (List.mem_of_getElem? (i := 11) rfl)))) (mvT hZ (hw _ (List.mem_of_getElem? (i := 11) rfl))) (mvT hZ (hw _ (List.mem_of_getElem? (i := 10) rfl))) (by decide) (backOf (W := 0) (rmS l Z a0 hw [] w0 0 1 h0 n0 Z0 E0 F0 (by decide) (by decide)) hZ (hw _ (List.mem_of_getElem? (i := 12) rfl)) (hw _ (List.mem_of_getElem? (i := 6) rfl)) (by decide) (by decide)) q13a q13c (g := (mkF m 43 #[.val (.int p1), .val (.int (0 : Int32)), .val (.ref w0), .val (.int (1 : Int32))] [(.ref w0)])) rfl (by rw [hml]; rfl) (Steps.refl _) (argsL := []) (rest := []) (lenOf pdL_1 rfl) rfl (by show 2 * 0 + _ ≤ _; exact Nat.le_of_eq rfl) (hb hby at_43) (fun _ _ => ⟨rfl, e4, (by decide : 0 + 0 ≤ _), (by decide : 0 + 0 ≤ _)⟩)
    dsimp only [Pt.U, Pt.locs, Pt.cells, Pt.slots] at X13 l13 y13 z13 st13 hQ13
    subst l13 y13 z13
    obtain ⟨rfl, N13q, hq13⟩ := hQ13
    have N13 := Fr.app N4 N13q
    have pre14 : Go p e below T13 (mkF m 46 #[.val (.int p1), .val (.int (0 : Int32)), .val (.ref w0), .val (.int (1 : Int32))] [(.int (1 : Int32))]) s₁ (entryFrame m #[(.int p1)] maxLocals) := fun t k => pre12 t (st13.trans k)
    have e13 : T13.heap = h0 := hq13
    have pre15 : Go p e below T13 (mkF m 47 #[.val (.int p1), .val (.int (0 : Int32)), .val (.ref w0), .val (.int (1 : Int32))] [(.int (1 : Int32)), (.int (1 : Int32))]) s₁ (entryFrame m #[(.int p1)] maxLocals) := fun t k => pre14 t (by
        show Steps p.tables e below (T13.setTop (mkF m 46 #[.val (.int p1), .val (.int (0 : Int32)), .val (.ref w0), .val (.int (1 : Int32))] [(.int (1 : Int32))])) t
        refine XS.iloadN X13.here hx rfl (hb hby at_46) rfl ?_
        exact k)
    have pre16 : Go p e below T13 (mkF m 50 #[.val (.int p1), .val (.int (0 : Int32)), .val (.ref w0), .val (.int (1 : Int32))] []) s₁ (entryFrame m #[(.int p1)] maxLocals) := fun t k => pre15 t (XS.icmpNo X13.here hx rfl (hb hby at_47) rfl (teq (by decide : (1 : Int32) = (1 : Int32))).2 k)
    have pre17 : Go p e below T13 (mkF m 55 #[.val (.int p1), .val (.int (0 : Int32)), .val (.ref w0), .val (.int (1 : Int32))] [(.int (1 : Int32))]) s₁ (entryFrame m #[(.int p1)] maxLocals) := fun t k => pre16 t (by
        show Steps p.tables e below (T13.setTop (mkF m 50 #[.val (.int p1), .val (.int (0 : Int32)), .val (.ref w0), .val (.int (1 : Int32))] [])) t
        refine XS.iconst X13.here hx rfl (hb hby at_50) ?_
        show Steps p.tables e below (T13.setTop (mkF m 51 #[.val (.int p1), .val (.int (0 : Int32)), .val (.ref w0), .val (.int (1 : Int32))] [(.int (1 : Int32))])) t
        refine XS.goto X13.here hx rfl (pc0 := 51) (pc' := 55) rfl (hb hby at_51) (by decide) (by decide) ?_
        exact k)
    have hnr : Value.int (nar .boolean (1 : Int32)) = (.int (1 : Int32)) := by rfl
    obtain ⟨fs, hr, hrun, hended, hW, hsame⟩ := X13.leave (v := some (.int (1 : Int32))) (fun h => by rw [Bd.returns] at h; cases h)
    refine ⟨_, _, pre17 _ (retN X13 hx (t := .boolean) Bd.returns (by simp) (hb hby at_55) (hnr ▸ hr)), hrun, hended, _, _, rfl, ?_, ⟨_, rfl⟩, hW, hsame.mono (by decide) (by decide)⟩
    show QL Z p1 w0 w1 w2 w3 w4 w5 w6 w7 w8 h0 n0 _ T13.heap _
    rw [e13]
    exact ⟨rfl, N13⟩
  · have pre18 : Go p e below s₁ (mkF m 9 #[.val (.int p1), .val (.int (1 : Int32)), .unset, .unset] [(.int (1 : Int32))]) s₁ (entryFrame m #[(.int p1)] maxLocals) := fun t k => pre1 t (by
        show Steps p.tables e below (s₁.setTop (mkF m 7 #[.val (.int p1), .unset, .unset, .unset] [(.int ((p1 &&& (2147483647 : Int32)) % (9 : Int32)))])) t
        refine XS.istoreN X0.here hx rfl (hb hby at_7) rfl (l' := #[.val (.int p1), .val (.int (1 : Int32)), .unset, .unset]) (by rw [hv2_1]; rfl) ?_
        show Steps p.tables e below (s₁.setTop (mkF m 8 #[.val (.int p1), .val (.int (1 : Int32)), .unset, .unset] [])) t
        refine XS.iloadN X0.here hx rfl (hb hby at_8) rfl ?_
        exact k)
    obtain ⟨_, _, ⟨T19, L19, k19, n19⟩, -, X19, ⟨Lc19, hQ19, l19, y19, z19⟩, st19⟩ := Jvm.LawKit.callS X0 hx (y := (⟨"com/example/whisker/whisker/PrimitiveTypeSizePinLaw", "pick", "(I)Lcom/example/whisker/whisker/PrimitiveType;"⟩ : MethodName)) hown (mvT hZ (hw _ (List.mem_of_getElem? (i := 1) rfl))) (mvT hZ (hw _ (List.mem_of_getElem? (i := 2) rfl))) (mvT hZ (hw _ (List.mem_of_getElem? (i := 3) rfl))) (mvT hZ (hw _ (List.mem_of_getElem? (i := 4) rfl))) (by decide) (backOf (W := 0) (rmP l Z a0 hw [] (1 : Int32) w0 w1 w2 w3 w4 w5 w6 w7 w8 w1 h0 n0 Z0 S0 S1 S2 S3 S4 S5 S6 S7 S8 (by simp [pickF])) hZ (hw _ (List.mem_of_getElem? (i := 4) rfl)) (hw _ (List.mem_of_getElem? (i := 3) rfl)) (by decide) (by decide)) (g := (mkF m 9 #[.val (.int p1), .val (.int (1 : Int32)), .unset, .unset] [(.int (1 : Int32))])) rfl (by rw [hml]; rfl) (argsL := [(.int (1 : Int32))]) (rest := []) (lenOf pdL_0 rfl) rfl (by show 2 * 0 + _ ≤ _; exact Nat.le_of_eq rfl) (hb hby at_9) (fun _ _ => ⟨rfl, e0, (by decide : 0 + 0 ≤ _), (by decide : 0 + 0 ≤ _)⟩)
    dsimp only [Pt.U, Pt.locs, Pt.cells, Pt.slots] at X19 l19 y19 z19 st19 hQ19
    subst l19 y19 z19
    obtain ⟨rfl, N19q, hq19⟩ := hQ19
    have N19 := Fr.app N0 N19q
    have pre20 : Go p e below T19 (mkF m 12 #[.val (.int p1), .val (.int (1 : Int32)), .unset, .unset] [(.ref w1)]) s₁ (entryFrame m #[(.int p1)] maxLocals) := fun t k => pre18 t (st19 t k)
    have e19 : T19.heap = h0 := hq19
    have pre21 : Go p e below T19 (mkF m 16 #[.val (.int p1), .val (.int (1 : Int32)), .val (.ref w1), .unset] [(.int (8 : Int32)), (.int (1 : Int32))]) s₁ (entryFrame m #[(.int p1)] maxLocals) := fun t k => pre20 t (by
        show Steps p.tables e below (T19.setTop (mkF m 12 #[.val (.int p1), .val (.int (1 : Int32)), .unset, .unset] [(.ref w1)])) t
        refine XS.astoreN X19.here hx rfl (hb hby at_12) rfl rfl (l' := #[.val (.int p1), .val (.int (1 : Int32)), .val (.ref w1), .unset]) rfl ?_
        show Steps p.tables e below (T19.setTop (mkF m 13 #[.val (.int p1), .val (.int (1 : Int32)), .val (.ref w1), .unset] [])) t
        refine XS.iloadN X19.here hx rfl (hb hby at_13) rfl ?_
        show Steps p.tables e below (T19.setTop (mkF m 14 #[.val (.int p1), .val (.int (1 : Int32)), .val (.ref w1), .unset] [(.int (1 : Int32))])) t
        refine XS.bipush X19.here hx rfl (hb hby at_14) ?_
        exact k)
    have pre22 : Go p e below T19 (mkF m 24 #[.val (.int p1), .val (.int (1 : Int32)), .val (.ref w1), .unset] []) s₁ (entryFrame m #[(.int p1)] maxLocals) := fun t k => pre21 t (XS.icmpYes X19.here hx rfl (pc0 := 16) (pc' := 24) rfl (hb hby at_16) rfl (feq (by decide : ¬ ((1 : Int32) = (8 : Int32)))).2 (by decide) (by decide) k)
    have pre23 : Go p e below T19 (mkF m 26 #[.val (.int p1), .val (.int (1 : Int32)), .val (.ref w1), .unset] [(.int (5 : Int32)), (.int (1 : Int32))]) s₁ (entryFrame m #[(.int p1)] maxLocals) := fun t k => pre22 t (by
        show Steps p.tables e below (T19.setTop (mkF m 24 #[.val (.int p1), .val (.int (1 : Int32)), .val (.ref w1), .unset] [])) t
        refine XS.iloadN X19.here hx rfl (hb hby at_24) rfl ?_
        show Steps p.tables e below (T19.setTop (mkF m 25 #[.val (.int p1), .val (.int (1 : Int32)), .val (.ref w1), .unset] [(.int (1 : Int32))])) t
        refine XS.iconst X19.here hx rfl (hb hby at_25) ?_
        exact k)
    have pre24 : Go p e below T19 (mkF m 29 #[.val (.int p1), .val (.int (1 : Int32)), .val (.ref w1), .unset] []) s₁ (entryFrame m #[(.int p1)] maxLocals) := fun t k => pre23 t (XS.icmpNo X19.here hx rfl (hb hby at_26) rfl (feq (by decide : ¬ ((1 : Int32) = (5 : Int32)))).1 k)
    have pre25 : Go p e below T19 (mkF m 32 #[.val (.int p1), .val (.int (1 : Int32)), .val (.ref w1), .unset] [(.int (7 : Int32)), (.int (1 : Int32))]) s₁ (entryFrame m #[(.int p1)] maxLocals) := fun t k => pre24 t (by
        show Steps p.tables e below (T19.setTop (mkF m 29 #[.val (.int p1), .val (.int (1 : Int32)), .val (.ref w1), .unset] [])) t
        refine XS.iloadN X19.here hx rfl (hb hby at_29) rfl ?_
        show Steps p.tables e below (T19.setTop (mkF m 30 #[.val (.int p1), .val (.int (1 : Int32)), .val (.ref w1), .unset] [(.int (1 : Int32))])) t
        refine XS.bipush X19.here hx rfl (hb hby at_30) ?_
        exact k)
    have pre26 : Go p e below T19 (mkF m 40 #[.val (.int p1), .val (.int (1 : Int32)), .val (.ref w1), .unset] []) s₁ (entryFrame m #[(.int p1)] maxLocals) := fun t k => pre25 t (XS.icmpYes X19.here hx rfl (pc0 := 32) (pc' := 40) rfl (hb hby at_32) rfl (feq (by decide : ¬ ((1 : Int32) = (7 : Int32)))).2 (by decide) (by decide) k)
    have pre27 : Go p e below T19 (mkF m 43 #[.val (.int p1), .val (.int (1 : Int32)), .val (.ref w1), .val (.int (1 : Int32))] [(.ref w1)]) s₁ (entryFrame m #[(.int p1)] maxLocals) := fun t k => pre26 t (by
        show Steps p.tables e below (T19.setTop (mkF m 40 #[.val (.int p1), .val (.int (1 : Int32)), .val (.ref w1), .unset] [])) t
        refine XS.iconst X19.here hx rfl (hb hby at_40) ?_
        show Steps p.tables e below (T19.setTop (mkF m 41 #[.val (.int p1), .val (.int (1 : Int32)), .val (.ref w1), .unset] [(.int (1 : Int32))])) t
        refine XS.istoreN X19.here hx rfl (hb hby at_41) rfl (l' := #[.val (.int p1), .val (.int (1 : Int32)), .val (.ref w1), .val (.int (1 : Int32))]) rfl ?_
        show Steps p.tables e below (T19.setTop (mkF m 42 #[.val (.int p1), .val (.int (1 : Int32)), .val (.ref w1), .val (.int (1 : Int32))] [])) t
        refine XS.aloadN X19.here hx rfl (hb hby at_42) rfl rfl ?_
        exact k)
    obtain ⟨cq28, kq28, q28a, q28b, q28c⟩ := isOf hZ e19 E1
    obtain ⟨_, _, ⟨T28, L28, k28, n28⟩, -, X28, ⟨Lc28, hQ28, l28, y28, z28⟩, st28⟩ := X19.virtualBack hx (y := (⟨"com/example/whisker/whisker/PrimitiveType", "size", "()I"⟩ : MethodName)) (z := (⟨"com/example/whisker/whisker/PrimitiveType", "size", "()I"⟩ : MethodName)) hown (mvT hZ (hw _ (List.mem_of_getElem? (i := 8) rfl))) (mvT hZ (hw _ (List.mem_of_getElem? (i := 9) rfl))) (notFace_of_selects (args := #[]) (mvT hZ (hw _ (List.mem_of_getElem? (i := 11) rfl)))) (mvT hZ (hw _ (List.mem_of_getElem? (i := 11) rfl))) (mvT hZ (hw _ (List.mem_of_getElem? (i := 10) rfl))) (by decide) (backOf (W := 0) (rmS l Z a0 hw [] w1 1 1 h0 n0 Z0 E1 F1 (by decide) (by decide)) hZ (hw _ (List.mem_of_getElem? (i := 12) rfl)) (hw _ (List.mem_of_getElem? (i := 6) rfl)) (by decide) (by decide)) q28a q28c (g := (mkF m 43 #[.val (.int p1), .val (.int (1 : Int32)), .val (.ref w1), .val (.int (1 : Int32))] [(.ref w1)])) rfl (by rw [hml]; rfl) (Steps.refl _) (argsL := []) (rest := []) (lenOf pdL_1 rfl) rfl (by show 2 * 0 + _ ≤ _; exact Nat.le_of_eq rfl) (hb hby at_43) (fun _ _ => ⟨rfl, e19, (by decide : 0 + 0 ≤ _), (by decide : 0 + 0 ≤ _)⟩)
    dsimp only [Pt.U, Pt.locs, Pt.cells, Pt.slots] at X28 l28 y28 z28 st28 hQ28
    subst l28 y28 z28
    obtain ⟨rfl, N28q, hq28⟩ := hQ28
    have N28 := Fr.app N19 N28q
    have pre29 : Go p e below T28 (mkF m 46 #[.val (.int p1), .val (.int (1 : Int32)), .val (.ref w1), .val (.int (1 : Int32))] [(.int (1 : Int32))]) s₁ (entryFrame m #[(.int p1)] maxLocals) := fun t k => pre27 t (st28.trans k)
    have e28 : T28.heap = h0 := hq28
    have pre30 : Go p e below T28 (mkF m 47 #[.val (.int p1), .val (.int (1 : Int32)), .val (.ref w1), .val (.int (1 : Int32))] [(.int (1 : Int32)), (.int (1 : Int32))]) s₁ (entryFrame m #[(.int p1)] maxLocals) := fun t k => pre29 t (by
        show Steps p.tables e below (T28.setTop (mkF m 46 #[.val (.int p1), .val (.int (1 : Int32)), .val (.ref w1), .val (.int (1 : Int32))] [(.int (1 : Int32))])) t
        refine XS.iloadN X28.here hx rfl (hb hby at_46) rfl ?_
        exact k)
    have pre31 : Go p e below T28 (mkF m 50 #[.val (.int p1), .val (.int (1 : Int32)), .val (.ref w1), .val (.int (1 : Int32))] []) s₁ (entryFrame m #[(.int p1)] maxLocals) := fun t k => pre30 t (XS.icmpNo X28.here hx rfl (hb hby at_47) rfl (teq (by decide : (1 : Int32) = (1 : Int32))).2 k)
    have pre32 : Go p e below T28 (mkF m 55 #[.val (.int p1), .val (.int (1 : Int32)), .val (.ref w1), .val (.int (1 : Int32))] [(.int (1 : Int32))]) s₁ (entryFrame m #[(.int p1)] maxLocals) := fun t k => pre31 t (by
        show Steps p.tables e below (T28.setTop (mkF m 50 #[.val (.int p1), .val (.int (1 : Int32)), .val (.ref w1), .val (.int (1 : Int32))] [])) t
        refine XS.iconst X28.here hx rfl (hb hby at_50) ?_
        show Steps p.tables e below (T28.setTop (mkF m 51 #[.val (.int p1), .val (.int (1 : Int32)), .val (.ref w1), .val (.int (1 : Int32))] [(.int (1 : Int32))])) t
        refine XS.goto X28.here hx rfl (pc0 := 51) (pc' := 55) rfl (hb hby at_51) (by decide) (by decide) ?_
        exact k)
    have hnr : Value.int (nar .boolean (1 : Int32)) = (.int (1 : Int32)) := by rfl
    obtain ⟨fs, hr, hrun, hended, hW, hsame⟩ := X28.leave (v := some (.int (1 : Int32))) (fun h => by rw [Bd.returns] at h; cases h)
    refine ⟨_, _, pre32 _ (retN X28 hx (t := .boolean) Bd.returns (by simp) (hb hby at_55) (hnr ▸ hr)), hrun, hended, _, _, rfl, ?_, ⟨_, rfl⟩, hW, hsame.mono (by decide) (by decide)⟩
    show QL Z p1 w0 w1 w2 w3 w4 w5 w6 w7 w8 h0 n0 _ T28.heap _
    rw [e28]
    exact ⟨rfl, N28⟩
  · have pre33 : Go p e below s₁ (mkF m 9 #[.val (.int p1), .val (.int (2 : Int32)), .unset, .unset] [(.int (2 : Int32))]) s₁ (entryFrame m #[(.int p1)] maxLocals) := fun t k => pre1 t (by
        show Steps p.tables e below (s₁.setTop (mkF m 7 #[.val (.int p1), .unset, .unset, .unset] [(.int ((p1 &&& (2147483647 : Int32)) % (9 : Int32)))])) t
        refine XS.istoreN X0.here hx rfl (hb hby at_7) rfl (l' := #[.val (.int p1), .val (.int (2 : Int32)), .unset, .unset]) (by rw [hv2_2]; rfl) ?_
        show Steps p.tables e below (s₁.setTop (mkF m 8 #[.val (.int p1), .val (.int (2 : Int32)), .unset, .unset] [])) t
        refine XS.iloadN X0.here hx rfl (hb hby at_8) rfl ?_
        exact k)
    obtain ⟨_, _, ⟨T34, L34, k34, n34⟩, -, X34, ⟨Lc34, hQ34, l34, y34, z34⟩, st34⟩ := Jvm.LawKit.callS X0 hx (y := (⟨"com/example/whisker/whisker/PrimitiveTypeSizePinLaw", "pick", "(I)Lcom/example/whisker/whisker/PrimitiveType;"⟩ : MethodName)) hown (mvT hZ (hw _ (List.mem_of_getElem? (i := 1) rfl))) (mvT hZ (hw _ (List.mem_of_getElem? (i := 2) rfl))) (mvT hZ (hw _ (List.mem_of_getElem? (i := 3) rfl))) (mvT hZ (hw _ (List.mem_of_getElem? (i := 4) rfl))) (by decide) (backOf (W := 0) (rmP l Z a0 hw [] (2 : Int32) w0 w1 w2 w3 w4 w5 w6 w7 w8 w2 h0 n0 Z0 S0 S1 S2 S3 S4 S5 S6 S7 S8 (by simp [pickF])) hZ (hw _ (List.mem_of_getElem? (i := 4) rfl)) (hw _ (List.mem_of_getElem? (i := 3) rfl)) (by decide) (by decide)) (g := (mkF m 9 #[.val (.int p1), .val (.int (2 : Int32)), .unset, .unset] [(.int (2 : Int32))])) rfl (by rw [hml]; rfl) (argsL := [(.int (2 : Int32))]) (rest := []) (lenOf pdL_0 rfl) rfl (by show 2 * 0 + _ ≤ _; exact Nat.le_of_eq rfl) (hb hby at_9) (fun _ _ => ⟨rfl, e0, (by decide : 0 + 0 ≤ _), (by decide : 0 + 0 ≤ _)⟩)
    dsimp only [Pt.U, Pt.locs, Pt.cells, Pt.slots] at X34 l34 y34 z34 st34 hQ34
    subst l34 y34 z34
    obtain ⟨rfl, N34q, hq34⟩ := hQ34
    have N34 := Fr.app N0 N34q
    have pre35 : Go p e below T34 (mkF m 12 #[.val (.int p1), .val (.int (2 : Int32)), .unset, .unset] [(.ref w2)]) s₁ (entryFrame m #[(.int p1)] maxLocals) := fun t k => pre33 t (st34 t k)
    have e34 : T34.heap = h0 := hq34
    have pre36 : Go p e below T34 (mkF m 16 #[.val (.int p1), .val (.int (2 : Int32)), .val (.ref w2), .unset] [(.int (8 : Int32)), (.int (2 : Int32))]) s₁ (entryFrame m #[(.int p1)] maxLocals) := fun t k => pre35 t (by
        show Steps p.tables e below (T34.setTop (mkF m 12 #[.val (.int p1), .val (.int (2 : Int32)), .unset, .unset] [(.ref w2)])) t
        refine XS.astoreN X34.here hx rfl (hb hby at_12) rfl rfl (l' := #[.val (.int p1), .val (.int (2 : Int32)), .val (.ref w2), .unset]) rfl ?_
        show Steps p.tables e below (T34.setTop (mkF m 13 #[.val (.int p1), .val (.int (2 : Int32)), .val (.ref w2), .unset] [])) t
        refine XS.iloadN X34.here hx rfl (hb hby at_13) rfl ?_
        show Steps p.tables e below (T34.setTop (mkF m 14 #[.val (.int p1), .val (.int (2 : Int32)), .val (.ref w2), .unset] [(.int (2 : Int32))])) t
        refine XS.bipush X34.here hx rfl (hb hby at_14) ?_
        exact k)
    have pre37 : Go p e below T34 (mkF m 24 #[.val (.int p1), .val (.int (2 : Int32)), .val (.ref w2), .unset] []) s₁ (entryFrame m #[(.int p1)] maxLocals) := fun t k => pre36 t (XS.icmpYes X34.here hx rfl (pc0 := 16) (pc' := 24) rfl (hb hby at_16) rfl (feq (by decide : ¬ ((2 : Int32) = (8 : Int32)))).2 (by decide) (by decide) k)
    have pre38 : Go p e below T34 (mkF m 26 #[.val (.int p1), .val (.int (2 : Int32)), .val (.ref w2), .unset] [(.int (5 : Int32)), (.int (2 : Int32))]) s₁ (entryFrame m #[(.int p1)] maxLocals) := fun t k => pre37 t (by
        show Steps p.tables e below (T34.setTop (mkF m 24 #[.val (.int p1), .val (.int (2 : Int32)), .val (.ref w2), .unset] [])) t
        refine XS.iloadN X34.here hx rfl (hb hby at_24) rfl ?_
        show Steps p.tables e below (T34.setTop (mkF m 25 #[.val (.int p1), .val (.int (2 : Int32)), .val (.ref w2), .unset] [(.int (2 : Int32))])) t
        refine XS.iconst X34.here hx rfl (hb hby at_25) ?_
        exact k)
    have pre39 : Go p e below T34 (mkF m 29 #[.val (.int p1), .val (.int (2 : Int32)), .val (.ref w2), .unset] []) s₁ (entryFrame m #[(.int p1)] maxLocals) := fun t k => pre38 t (XS.icmpNo X34.here hx rfl (hb hby at_26) rfl (feq (by decide : ¬ ((2 : Int32) = (5 : Int32)))).1 k)
    have pre40 : Go p e below T34 (mkF m 32 #[.val (.int p1), .val (.int (2 : Int32)), .val (.ref w2), .unset] [(.int (7 : Int32)), (.int (2 : Int32))]) s₁ (entryFrame m #[(.int p1)] maxLocals) := fun t k => pre39 t (by
        show Steps p.tables e below (T34.setTop (mkF m 29 #[.val (.int p1), .val (.int (2 : Int32)), .val (.ref w2), .unset] [])) t
        refine XS.iloadN X34.here hx rfl (hb hby at_29) rfl ?_
        show Steps p.tables e below (T34.setTop (mkF m 30 #[.val (.int p1), .val (.int (2 : Int32)), .val (.ref w2), .unset] [(.int (2 : Int32))])) t
        refine XS.bipush X34.here hx rfl (hb hby at_30) ?_
        exact k)
    have pre41 : Go p e below T34 (mkF m 40 #[.val (.int p1), .val (.int (2 : Int32)), .val (.ref w2), .unset] []) s₁ (entryFrame m #[(.int p1)] maxLocals) := fun t k => pre40 t (XS.icmpYes X34.here hx rfl (pc0 := 32) (pc' := 40) rfl (hb hby at_32) rfl (feq (by decide : ¬ ((2 : Int32) = (7 : Int32)))).2 (by decide) (by decide) k)
    have pre42 : Go p e below T34 (mkF m 43 #[.val (.int p1), .val (.int (2 : Int32)), .val (.ref w2), .val (.int (1 : Int32))] [(.ref w2)]) s₁ (entryFrame m #[(.int p1)] maxLocals) := fun t k => pre41 t (by
        show Steps p.tables e below (T34.setTop (mkF m 40 #[.val (.int p1), .val (.int (2 : Int32)), .val (.ref w2), .unset] [])) t
        refine XS.iconst X34.here hx rfl (hb hby at_40) ?_
        show Steps p.tables e below (T34.setTop (mkF m 41 #[.val (.int p1), .val (.int (2 : Int32)), .val (.ref w2), .unset] [(.int (1 : Int32))])) t
        refine XS.istoreN X34.here hx rfl (hb hby at_41) rfl (l' := #[.val (.int p1), .val (.int (2 : Int32)), .val (.ref w2), .val (.int (1 : Int32))]) rfl ?_
        show Steps p.tables e below (T34.setTop (mkF m 42 #[.val (.int p1), .val (.int (2 : Int32)), .val (.ref w2), .val (.int (1 : Int32))] [])) t
        refine XS.aloadN X34.here hx rfl (hb hby at_42) rfl rfl ?_
        exact k)
    obtain ⟨cq43, kq43, q43a, q43b, q43c⟩ := isOf hZ e34 E2
    obtain ⟨_, _, ⟨T43, L43, k43, n43⟩, -, X43, ⟨Lc43, hQ43, l43, y43, z43⟩, st43⟩ := X34.virtualBack hx (y := (⟨"com/example/whisker/whisker/PrimitiveType", "size", "()I"⟩ : MethodName)) (z := (⟨"com/example/whisker/whisker/PrimitiveType", "size", "()I"⟩ : MethodName)) hown (mvT hZ (hw _ (List.mem_of_getElem? (i := 8) rfl))) (mvT hZ (hw _ (List.mem_of_getElem? (i := 9) rfl))) (notFace_of_selects (args := #[]) (mvT hZ (hw _ (List.mem_of_getElem? (i := 11) rfl)))) (mvT hZ (hw _ (List.mem_of_getElem? (i := 11) rfl))) (mvT hZ (hw _ (List.mem_of_getElem? (i := 10) rfl))) (by decide) (backOf (W := 0) (rmS l Z a0 hw [] w2 2 1 h0 n0 Z0 E2 F2 (by decide) (by decide)) hZ (hw _ (List.mem_of_getElem? (i := 12) rfl)) (hw _ (List.mem_of_getElem? (i := 6) rfl)) (by decide) (by decide)) q43a q43c (g := (mkF m 43 #[.val (.int p1), .val (.int (2 : Int32)), .val (.ref w2), .val (.int (1 : Int32))] [(.ref w2)])) rfl (by rw [hml]; rfl) (Steps.refl _) (argsL := []) (rest := []) (lenOf pdL_1 rfl) rfl (by show 2 * 0 + _ ≤ _; exact Nat.le_of_eq rfl) (hb hby at_43) (fun _ _ => ⟨rfl, e34, (by decide : 0 + 0 ≤ _), (by decide : 0 + 0 ≤ _)⟩)
    dsimp only [Pt.U, Pt.locs, Pt.cells, Pt.slots] at X43 l43 y43 z43 st43 hQ43
    subst l43 y43 z43
    obtain ⟨rfl, N43q, hq43⟩ := hQ43
    have N43 := Fr.app N34 N43q
    have pre44 : Go p e below T43 (mkF m 46 #[.val (.int p1), .val (.int (2 : Int32)), .val (.ref w2), .val (.int (1 : Int32))] [(.int (1 : Int32))]) s₁ (entryFrame m #[(.int p1)] maxLocals) := fun t k => pre42 t (st43.trans k)
    have e43 : T43.heap = h0 := hq43
    have pre45 : Go p e below T43 (mkF m 47 #[.val (.int p1), .val (.int (2 : Int32)), .val (.ref w2), .val (.int (1 : Int32))] [(.int (1 : Int32)), (.int (1 : Int32))]) s₁ (entryFrame m #[(.int p1)] maxLocals) := fun t k => pre44 t (by
        show Steps p.tables e below (T43.setTop (mkF m 46 #[.val (.int p1), .val (.int (2 : Int32)), .val (.ref w2), .val (.int (1 : Int32))] [(.int (1 : Int32))])) t
        refine XS.iloadN X43.here hx rfl (hb hby at_46) rfl ?_
        exact k)
    have pre46 : Go p e below T43 (mkF m 50 #[.val (.int p1), .val (.int (2 : Int32)), .val (.ref w2), .val (.int (1 : Int32))] []) s₁ (entryFrame m #[(.int p1)] maxLocals) := fun t k => pre45 t (XS.icmpNo X43.here hx rfl (hb hby at_47) rfl (teq (by decide : (1 : Int32) = (1 : Int32))).2 k)
    have pre47 : Go p e below T43 (mkF m 55 #[.val (.int p1), .val (.int (2 : Int32)), .val (.ref w2), .val (.int (1 : Int32))] [(.int (1 : Int32))]) s₁ (entryFrame m #[(.int p1)] maxLocals) := fun t k => pre46 t (by
        show Steps p.tables e below (T43.setTop (mkF m 50 #[.val (.int p1), .val (.int (2 : Int32)), .val (.ref w2), .val (.int (1 : Int32))] [])) t
        refine XS.iconst X43.here hx rfl (hb hby at_50) ?_
        show Steps p.tables e below (T43.setTop (mkF m 51 #[.val (.int p1), .val (.int (2 : Int32)), .val (.ref w2), .val (.int (1 : Int32))] [(.int (1 : Int32))])) t
        refine XS.goto X43.here hx rfl (pc0 := 51) (pc' := 55) rfl (hb hby at_51) (by decide) (by decide) ?_
        exact k)
    have hnr : Value.int (nar .boolean (1 : Int32)) = (.int (1 : Int32)) := by rfl
    obtain ⟨fs, hr, hrun, hended, hW, hsame⟩ := X43.leave (v := some (.int (1 : Int32))) (fun h => by rw [Bd.returns] at h; cases h)
    refine ⟨_, _, pre47 _ (retN X43 hx (t := .boolean) Bd.returns (by simp) (hb hby at_55) (hnr ▸ hr)), hrun, hended, _, _, rfl, ?_, ⟨_, rfl⟩, hW, hsame.mono (by decide) (by decide)⟩
    show QL Z p1 w0 w1 w2 w3 w4 w5 w6 w7 w8 h0 n0 _ T43.heap _
    rw [e43]
    exact ⟨rfl, N43⟩
  · have pre48 : Go p e below s₁ (mkF m 9 #[.val (.int p1), .val (.int (3 : Int32)), .unset, .unset] [(.int (3 : Int32))]) s₁ (entryFrame m #[(.int p1)] maxLocals) := fun t k => pre1 t (by
        show Steps p.tables e below (s₁.setTop (mkF m 7 #[.val (.int p1), .unset, .unset, .unset] [(.int ((p1 &&& (2147483647 : Int32)) % (9 : Int32)))])) t
        refine XS.istoreN X0.here hx rfl (hb hby at_7) rfl (l' := #[.val (.int p1), .val (.int (3 : Int32)), .unset, .unset]) (by rw [hv2_3]; rfl) ?_
        show Steps p.tables e below (s₁.setTop (mkF m 8 #[.val (.int p1), .val (.int (3 : Int32)), .unset, .unset] [])) t
        refine XS.iloadN X0.here hx rfl (hb hby at_8) rfl ?_
        exact k)
    obtain ⟨_, _, ⟨T49, L49, k49, n49⟩, -, X49, ⟨Lc49, hQ49, l49, y49, z49⟩, st49⟩ := Jvm.LawKit.callS X0 hx (y := (⟨"com/example/whisker/whisker/PrimitiveTypeSizePinLaw", "pick", "(I)Lcom/example/whisker/whisker/PrimitiveType;"⟩ : MethodName)) hown (mvT hZ (hw _ (List.mem_of_getElem? (i := 1) rfl))) (mvT hZ (hw _ (List.mem_of_getElem? (i := 2) rfl))) (mvT hZ (hw _ (List.mem_of_getElem? (i := 3) rfl))) (mvT hZ (hw _ (List.mem_of_getElem? (i := 4) rfl))) (by decide) (backOf (W := 0) (rmP l Z a0 hw [] (3 : Int32) w0 w1 w2 w3 w4 w5 w6 w7 w8 w3 h0 n0 Z0 S0 S1 S2 S3 S4 S5 S6 S7 S8 (by simp [pickF])) hZ (hw _ (List.mem_of_getElem? (i := 4) rfl)) (hw _ (List.mem_of_getElem? (i := 3) rfl)) (by decide) (by decide)) (g := (mkF m 9 #[.val (.int p1), .val (.int (3 : Int32)), .unset, .unset] [(.int (3 : Int32))])) rfl (by rw [hml]; rfl) (argsL := [(.int (3 : Int32))]) (rest := []) (lenOf pdL_0 rfl) rfl (by show 2 * 0 + _ ≤ _; exact Nat.le_of_eq rfl) (hb hby at_9) (fun _ _ => ⟨rfl, e0, (by decide : 0 + 0 ≤ _), (by decide : 0 + 0 ≤ _)⟩)
    dsimp only [Pt.U, Pt.locs, Pt.cells, Pt.slots] at X49 l49 y49 z49 st49 hQ49
    subst l49 y49 z49
    obtain ⟨rfl, N49q, hq49⟩ := hQ49
    have N49 := Fr.app N0 N49q
    have pre50 : Go p e below T49 (mkF m 12 #[.val (.int p1), .val (.int (3 : Int32)), .unset, .unset] [(.ref w3)]) s₁ (entryFrame m #[(.int p1)] maxLocals) := fun t k => pre48 t (st49 t k)
    have e49 : T49.heap = h0 := hq49
    have pre51 : Go p e below T49 (mkF m 16 #[.val (.int p1), .val (.int (3 : Int32)), .val (.ref w3), .unset] [(.int (8 : Int32)), (.int (3 : Int32))]) s₁ (entryFrame m #[(.int p1)] maxLocals) := fun t k => pre50 t (by
        show Steps p.tables e below (T49.setTop (mkF m 12 #[.val (.int p1), .val (.int (3 : Int32)), .unset, .unset] [(.ref w3)])) t
        refine XS.astoreN X49.here hx rfl (hb hby at_12) rfl rfl (l' := #[.val (.int p1), .val (.int (3 : Int32)), .val (.ref w3), .unset]) rfl ?_
        show Steps p.tables e below (T49.setTop (mkF m 13 #[.val (.int p1), .val (.int (3 : Int32)), .val (.ref w3), .unset] [])) t
        refine XS.iloadN X49.here hx rfl (hb hby at_13) rfl ?_
        show Steps p.tables e below (T49.setTop (mkF m 14 #[.val (.int p1), .val (.int (3 : Int32)), .val (.ref w3), .unset] [(.int (3 : Int32))])) t
        refine XS.bipush X49.here hx rfl (hb hby at_14) ?_
        exact k)
    have pre52 : Go p e below T49 (mkF m 24 #[.val (.int p1), .val (.int (3 : Int32)), .val (.ref w3), .unset] []) s₁ (entryFrame m #[(.int p1)] maxLocals) := fun t k => pre51 t (XS.icmpYes X49.here hx rfl (pc0 := 16) (pc' := 24) rfl (hb hby at_16) rfl (feq (by decide : ¬ ((3 : Int32) = (8 : Int32)))).2 (by decide) (by decide) k)
    have pre53 : Go p e below T49 (mkF m 26 #[.val (.int p1), .val (.int (3 : Int32)), .val (.ref w3), .unset] [(.int (5 : Int32)), (.int (3 : Int32))]) s₁ (entryFrame m #[(.int p1)] maxLocals) := fun t k => pre52 t (by
        show Steps p.tables e below (T49.setTop (mkF m 24 #[.val (.int p1), .val (.int (3 : Int32)), .val (.ref w3), .unset] [])) t
        refine XS.iloadN X49.here hx rfl (hb hby at_24) rfl ?_
        show Steps p.tables e below (T49.setTop (mkF m 25 #[.val (.int p1), .val (.int (3 : Int32)), .val (.ref w3), .unset] [(.int (3 : Int32))])) t
        refine XS.iconst X49.here hx rfl (hb hby at_25) ?_
        exact k)
    have pre54 : Go p e below T49 (mkF m 29 #[.val (.int p1), .val (.int (3 : Int32)), .val (.ref w3), .unset] []) s₁ (entryFrame m #[(.int p1)] maxLocals) := fun t k => pre53 t (XS.icmpNo X49.here hx rfl (hb hby at_26) rfl (feq (by decide : ¬ ((3 : Int32) = (5 : Int32)))).1 k)
    have pre55 : Go p e below T49 (mkF m 32 #[.val (.int p1), .val (.int (3 : Int32)), .val (.ref w3), .unset] [(.int (7 : Int32)), (.int (3 : Int32))]) s₁ (entryFrame m #[(.int p1)] maxLocals) := fun t k => pre54 t (by
        show Steps p.tables e below (T49.setTop (mkF m 29 #[.val (.int p1), .val (.int (3 : Int32)), .val (.ref w3), .unset] [])) t
        refine XS.iloadN X49.here hx rfl (hb hby at_29) rfl ?_
        show Steps p.tables e below (T49.setTop (mkF m 30 #[.val (.int p1), .val (.int (3 : Int32)), .val (.ref w3), .unset] [(.int (3 : Int32))])) t
        refine XS.bipush X49.here hx rfl (hb hby at_30) ?_
        exact k)
    have pre56 : Go p e below T49 (mkF m 40 #[.val (.int p1), .val (.int (3 : Int32)), .val (.ref w3), .unset] []) s₁ (entryFrame m #[(.int p1)] maxLocals) := fun t k => pre55 t (XS.icmpYes X49.here hx rfl (pc0 := 32) (pc' := 40) rfl (hb hby at_32) rfl (feq (by decide : ¬ ((3 : Int32) = (7 : Int32)))).2 (by decide) (by decide) k)
    have pre57 : Go p e below T49 (mkF m 43 #[.val (.int p1), .val (.int (3 : Int32)), .val (.ref w3), .val (.int (1 : Int32))] [(.ref w3)]) s₁ (entryFrame m #[(.int p1)] maxLocals) := fun t k => pre56 t (by
        show Steps p.tables e below (T49.setTop (mkF m 40 #[.val (.int p1), .val (.int (3 : Int32)), .val (.ref w3), .unset] [])) t
        refine XS.iconst X49.here hx rfl (hb hby at_40) ?_
        show Steps p.tables e below (T49.setTop (mkF m 41 #[.val (.int p1), .val (.int (3 : Int32)), .val (.ref w3), .unset] [(.int (1 : Int32))])) t
        refine XS.istoreN X49.here hx rfl (hb hby at_41) rfl (l' := #[.val (.int p1), .val (.int (3 : Int32)), .val (.ref w3), .val (.int (1 : Int32))]) rfl ?_
        show Steps p.tables e below (T49.setTop (mkF m 42 #[.val (.int p1), .val (.int (3 : Int32)), .val (.ref w3), .val (.int (1 : Int32))] [])) t
        refine XS.aloadN X49.here hx rfl (hb hby at_42) rfl rfl ?_
        exact k)
    obtain ⟨cq58, kq58, q58a, q58b, q58c⟩ := isOf hZ e49 E3
    obtain ⟨_, _, ⟨T58, L58, k58, n58⟩, -, X58, ⟨Lc58, hQ58, l58, y58, z58⟩, st58⟩ := X49.virtualBack hx (y := (⟨"com/example/whisker/whisker/PrimitiveType", "size", "()I"⟩ : MethodName)) (z := (⟨"com/example/whisker/whisker/PrimitiveType", "size", "()I"⟩ : MethodName)) hown (mvT hZ (hw _ (List.mem_of_getElem? (i := 8) rfl))) (mvT hZ (hw _ (List.mem_of_getElem? (i := 9) rfl))) (notFace_of_selects (args := #[]) (mvT hZ (hw _ (List.mem_of_getElem? (i := 11) rfl)))) (mvT hZ (hw _ (List.mem_of_getElem? (i := 11) rfl))) (mvT hZ (hw _ (List.mem_of_getElem? (i := 10) rfl))) (by decide) (backOf (W := 0) (rmS l Z a0 hw [] w3 3 1 h0 n0 Z0 E3 F3 (by decide) (by decide)) hZ (hw _ (List.mem_of_getElem? (i := 12) rfl)) (hw _ (List.mem_of_getElem? (i := 6) rfl)) (by decide) (by decide)) q58a q58c (g := (mkF m 43 #[.val (.int p1), .val (.int (3 : Int32)), .val (.ref w3), .val (.int (1 : Int32))] [(.ref w3)])) rfl (by rw [hml]; rfl) (Steps.refl _) (argsL := []) (rest := []) (lenOf pdL_1 rfl) rfl (by show 2 * 0 + _ ≤ _; exact Nat.le_of_eq rfl) (hb hby at_43) (fun _ _ => ⟨rfl, e49, (by decide : 0 + 0 ≤ _), (by decide : 0 + 0 ≤ _)⟩)
    dsimp only [Pt.U, Pt.locs, Pt.cells, Pt.slots] at X58 l58 y58 z58 st58 hQ58
    subst l58 y58 z58
    obtain ⟨rfl, N58q, hq58⟩ := hQ58
    have N58 := Fr.app N49 N58q
    have pre59 : Go p e below T58 (mkF m 46 #[.val (.int p1), .val (.int (3 : Int32)), .val (.ref w3), .val (.int (1 : Int32))] [(.int (1 : Int32))]) s₁ (entryFrame m #[(.int p1)] maxLocals) := fun t k => pre57 t (st58.trans k)
    have e58 : T58.heap = h0 := hq58
    have pre60 : Go p e below T58 (mkF m 47 #[.val (.int p1), .val (.int (3 : Int32)), .val (.ref w3), .val (.int (1 : Int32))] [(.int (1 : Int32)), (.int (1 : Int32))]) s₁ (entryFrame m #[(.int p1)] maxLocals) := fun t k => pre59 t (by
        show Steps p.tables e below (T58.setTop (mkF m 46 #[.val (.int p1), .val (.int (3 : Int32)), .val (.ref w3), .val (.int (1 : Int32))] [(.int (1 : Int32))])) t
        refine XS.iloadN X58.here hx rfl (hb hby at_46) rfl ?_
        exact k)
    have pre61 : Go p e below T58 (mkF m 50 #[.val (.int p1), .val (.int (3 : Int32)), .val (.ref w3), .val (.int (1 : Int32))] []) s₁ (entryFrame m #[(.int p1)] maxLocals) := fun t k => pre60 t (XS.icmpNo X58.here hx rfl (hb hby at_47) rfl (teq (by decide : (1 : Int32) = (1 : Int32))).2 k)
    have pre62 : Go p e below T58 (mkF m 55 #[.val (.int p1), .val (.int (3 : Int32)), .val (.ref w3), .val (.int (1 : Int32))] [(.int (1 : Int32))]) s₁ (entryFrame m #[(.int p1)] maxLocals) := fun t k => pre61 t (by
        show Steps p.tables e below (T58.setTop (mkF m 50 #[.val (.int p1), .val (.int (3 : Int32)), .val (.ref w3), .val (.int (1 : Int32))] [])) t
        refine XS.iconst X58.here hx rfl (hb hby at_50) ?_
        show Steps p.tables e below (T58.setTop (mkF m 51 #[.val (.int p1), .val (.int (3 : Int32)), .val (.ref w3), .val (.int (1 : Int32))] [(.int (1 : Int32))])) t
        refine XS.goto X58.here hx rfl (pc0 := 51) (pc' := 55) rfl (hb hby at_51) (by decide) (by decide) ?_
        exact k)
    have hnr : Value.int (nar .boolean (1 : Int32)) = (.int (1 : Int32)) := by rfl
    obtain ⟨fs, hr, hrun, hended, hW, hsame⟩ := X58.leave (v := some (.int (1 : Int32))) (fun h => by rw [Bd.returns] at h; cases h)
    refine ⟨_, _, pre62 _ (retN X58 hx (t := .boolean) Bd.returns (by simp) (hb hby at_55) (hnr ▸ hr)), hrun, hended, _, _, rfl, ?_, ⟨_, rfl⟩, hW, hsame.mono (by decide) (by decide)⟩
    show QL Z p1 w0 w1 w2 w3 w4 w5 w6 w7 w8 h0 n0 _ T58.heap _
    rw [e58]
    exact ⟨rfl, N58⟩
  · have pre63 : Go p e below s₁ (mkF m 9 #[.val (.int p1), .val (.int (4 : Int32)), .unset, .unset] [(.int (4 : Int32))]) s₁ (entryFrame m #[(.int p1)] maxLocals) := fun t k => pre1 t (by
        show Steps p.tables e below (s₁.setTop (mkF m 7 #[.val (.int p1), .unset, .unset, .unset] [(.int ((p1 &&& (2147483647 : Int32)) % (9 : Int32)))])) t
        refine XS.istoreN X0.here hx rfl (hb hby at_7) rfl (l' := #[.val (.int p1), .val (.int (4 : Int32)), .unset, .unset]) (by rw [hv2_4]; rfl) ?_
        show Steps p.tables e below (s₁.setTop (mkF m 8 #[.val (.int p1), .val (.int (4 : Int32)), .unset, .unset] [])) t
        refine XS.iloadN X0.here hx rfl (hb hby at_8) rfl ?_
        exact k)
    obtain ⟨_, _, ⟨T64, L64, k64, n64⟩, -, X64, ⟨Lc64, hQ64, l64, y64, z64⟩, st64⟩ := Jvm.LawKit.callS X0 hx (y := (⟨"com/example/whisker/whisker/PrimitiveTypeSizePinLaw", "pick", "(I)Lcom/example/whisker/whisker/PrimitiveType;"⟩ : MethodName)) hown (mvT hZ (hw _ (List.mem_of_getElem? (i := 1) rfl))) (mvT hZ (hw _ (List.mem_of_getElem? (i := 2) rfl))) (mvT hZ (hw _ (List.mem_of_getElem? (i := 3) rfl))) (mvT hZ (hw _ (List.mem_of_getElem? (i := 4) rfl))) (by decide) (backOf (W := 0) (rmP l Z a0 hw [] (4 : Int32) w0 w1 w2 w3 w4 w5 w6 w7 w8 w4 h0 n0 Z0 S0 S1 S2 S3 S4 S5 S6 S7 S8 (by simp [pickF])) hZ (hw _ (List.mem_of_getElem? (i := 4) rfl)) (hw _ (List.mem_of_getElem? (i := 3) rfl)) (by decide) (by decide)) (g := (mkF m 9 #[.val (.int p1), .val (.int (4 : Int32)), .unset, .unset] [(.int (4 : Int32))])) rfl (by rw [hml]; rfl) (argsL := [(.int (4 : Int32))]) (rest := []) (lenOf pdL_0 rfl) rfl (by show 2 * 0 + _ ≤ _; exact Nat.le_of_eq rfl) (hb hby at_9) (fun _ _ => ⟨rfl, e0, (by decide : 0 + 0 ≤ _), (by decide : 0 + 0 ≤ _)⟩)
    dsimp only [Pt.U, Pt.locs, Pt.cells, Pt.slots] at X64 l64 y64 z64 st64 hQ64
    subst l64 y64 z64
    obtain ⟨rfl, N64q, hq64⟩ := hQ64
    have N64 := Fr.app N0 N64q
    have pre65 : Go p e below T64 (mkF m 12 #[.val (.int p1), .val (.int (4 : Int32)), .unset, .unset] [(.ref w4)]) s₁ (entryFrame m #[(.int p1)] maxLocals) := fun t k => pre63 t (st64 t k)
    have e64 : T64.heap = h0 := hq64
    have pre66 : Go p e below T64 (mkF m 16 #[.val (.int p1), .val (.int (4 : Int32)), .val (.ref w4), .unset] [(.int (8 : Int32)), (.int (4 : Int32))]) s₁ (entryFrame m #[(.int p1)] maxLocals) := fun t k => pre65 t (by
        show Steps p.tables e below (T64.setTop (mkF m 12 #[.val (.int p1), .val (.int (4 : Int32)), .unset, .unset] [(.ref w4)])) t
        refine XS.astoreN X64.here hx rfl (hb hby at_12) rfl rfl (l' := #[.val (.int p1), .val (.int (4 : Int32)), .val (.ref w4), .unset]) rfl ?_
        show Steps p.tables e below (T64.setTop (mkF m 13 #[.val (.int p1), .val (.int (4 : Int32)), .val (.ref w4), .unset] [])) t
        refine XS.iloadN X64.here hx rfl (hb hby at_13) rfl ?_
        show Steps p.tables e below (T64.setTop (mkF m 14 #[.val (.int p1), .val (.int (4 : Int32)), .val (.ref w4), .unset] [(.int (4 : Int32))])) t
        refine XS.bipush X64.here hx rfl (hb hby at_14) ?_
        exact k)
    have pre67 : Go p e below T64 (mkF m 24 #[.val (.int p1), .val (.int (4 : Int32)), .val (.ref w4), .unset] []) s₁ (entryFrame m #[(.int p1)] maxLocals) := fun t k => pre66 t (XS.icmpYes X64.here hx rfl (pc0 := 16) (pc' := 24) rfl (hb hby at_16) rfl (feq (by decide : ¬ ((4 : Int32) = (8 : Int32)))).2 (by decide) (by decide) k)
    have pre68 : Go p e below T64 (mkF m 26 #[.val (.int p1), .val (.int (4 : Int32)), .val (.ref w4), .unset] [(.int (5 : Int32)), (.int (4 : Int32))]) s₁ (entryFrame m #[(.int p1)] maxLocals) := fun t k => pre67 t (by
        show Steps p.tables e below (T64.setTop (mkF m 24 #[.val (.int p1), .val (.int (4 : Int32)), .val (.ref w4), .unset] [])) t
        refine XS.iloadN X64.here hx rfl (hb hby at_24) rfl ?_
        show Steps p.tables e below (T64.setTop (mkF m 25 #[.val (.int p1), .val (.int (4 : Int32)), .val (.ref w4), .unset] [(.int (4 : Int32))])) t
        refine XS.iconst X64.here hx rfl (hb hby at_25) ?_
        exact k)
    have pre69 : Go p e below T64 (mkF m 29 #[.val (.int p1), .val (.int (4 : Int32)), .val (.ref w4), .unset] []) s₁ (entryFrame m #[(.int p1)] maxLocals) := fun t k => pre68 t (XS.icmpNo X64.here hx rfl (hb hby at_26) rfl (feq (by decide : ¬ ((4 : Int32) = (5 : Int32)))).1 k)
    have pre70 : Go p e below T64 (mkF m 32 #[.val (.int p1), .val (.int (4 : Int32)), .val (.ref w4), .unset] [(.int (7 : Int32)), (.int (4 : Int32))]) s₁ (entryFrame m #[(.int p1)] maxLocals) := fun t k => pre69 t (by
        show Steps p.tables e below (T64.setTop (mkF m 29 #[.val (.int p1), .val (.int (4 : Int32)), .val (.ref w4), .unset] [])) t
        refine XS.iloadN X64.here hx rfl (hb hby at_29) rfl ?_
        show Steps p.tables e below (T64.setTop (mkF m 30 #[.val (.int p1), .val (.int (4 : Int32)), .val (.ref w4), .unset] [(.int (4 : Int32))])) t
        refine XS.bipush X64.here hx rfl (hb hby at_30) ?_
        exact k)
    have pre71 : Go p e below T64 (mkF m 40 #[.val (.int p1), .val (.int (4 : Int32)), .val (.ref w4), .unset] []) s₁ (entryFrame m #[(.int p1)] maxLocals) := fun t k => pre70 t (XS.icmpYes X64.here hx rfl (pc0 := 32) (pc' := 40) rfl (hb hby at_32) rfl (feq (by decide : ¬ ((4 : Int32) = (7 : Int32)))).2 (by decide) (by decide) k)
    have pre72 : Go p e below T64 (mkF m 43 #[.val (.int p1), .val (.int (4 : Int32)), .val (.ref w4), .val (.int (1 : Int32))] [(.ref w4)]) s₁ (entryFrame m #[(.int p1)] maxLocals) := fun t k => pre71 t (by
        show Steps p.tables e below (T64.setTop (mkF m 40 #[.val (.int p1), .val (.int (4 : Int32)), .val (.ref w4), .unset] [])) t
        refine XS.iconst X64.here hx rfl (hb hby at_40) ?_
        show Steps p.tables e below (T64.setTop (mkF m 41 #[.val (.int p1), .val (.int (4 : Int32)), .val (.ref w4), .unset] [(.int (1 : Int32))])) t
        refine XS.istoreN X64.here hx rfl (hb hby at_41) rfl (l' := #[.val (.int p1), .val (.int (4 : Int32)), .val (.ref w4), .val (.int (1 : Int32))]) rfl ?_
        show Steps p.tables e below (T64.setTop (mkF m 42 #[.val (.int p1), .val (.int (4 : Int32)), .val (.ref w4), .val (.int (1 : Int32))] [])) t
        refine XS.aloadN X64.here hx rfl (hb hby at_42) rfl rfl ?_
        exact k)
    obtain ⟨cq73, kq73, q73a, q73b, q73c⟩ := isOf hZ e64 E4
    obtain ⟨_, _, ⟨T73, L73, k73, n73⟩, -, X73, ⟨Lc73, hQ73, l73, y73, z73⟩, st73⟩ := X64.virtualBack hx (y := (⟨"com/example/whisker/whisker/PrimitiveType", "size", "()I"⟩ : MethodName)) (z := (⟨"com/example/whisker/whisker/PrimitiveType", "size", "()I"⟩ : MethodName)) hown (mvT hZ (hw _ (List.mem_of_getElem? (i := 8) rfl))) (mvT hZ (hw _ (List.mem_of_getElem? (i := 9) rfl))) (notFace_of_selects (args := #[]) (mvT hZ (hw _ (List.mem_of_getElem? (i := 11) rfl)))) (mvT hZ (hw _ (List.mem_of_getElem? (i := 11) rfl))) (mvT hZ (hw _ (List.mem_of_getElem? (i := 10) rfl))) (by decide) (backOf (W := 0) (rmS l Z a0 hw [] w4 4 1 h0 n0 Z0 E4 F4 (by decide) (by decide)) hZ (hw _ (List.mem_of_getElem? (i := 12) rfl)) (hw _ (List.mem_of_getElem? (i := 6) rfl)) (by decide) (by decide)) q73a q73c (g := (mkF m 43 #[.val (.int p1), .val (.int (4 : Int32)), .val (.ref w4), .val (.int (1 : Int32))] [(.ref w4)])) rfl (by rw [hml]; rfl) (Steps.refl _) (argsL := []) (rest := []) (lenOf pdL_1 rfl) rfl (by show 2 * 0 + _ ≤ _; exact Nat.le_of_eq rfl) (hb hby at_43) (fun _ _ => ⟨rfl, e64, (by decide : 0 + 0 ≤ _), (by decide : 0 + 0 ≤ _)⟩)
    dsimp only [Pt.U, Pt.locs, Pt.cells, Pt.slots] at X73 l73 y73 z73 st73 hQ73
    subst l73 y73 z73
    obtain ⟨rfl, N73q, hq73⟩ := hQ73
    have N73 := Fr.app N64 N73q
    have pre74 : Go p e below T73 (mkF m 46 #[.val (.int p1), .val (.int (4 : Int32)), .val (.ref w4), .val (.int (1 : Int32))] [(.int (1 : Int32))]) s₁ (entryFrame m #[(.int p1)] maxLocals) := fun t k => pre72 t (st73.trans k)
    have e73 : T73.heap = h0 := hq73
    have pre75 : Go p e below T73 (mkF m 47 #[.val (.int p1), .val (.int (4 : Int32)), .val (.ref w4), .val (.int (1 : Int32))] [(.int (1 : Int32)), (.int (1 : Int32))]) s₁ (entryFrame m #[(.int p1)] maxLocals) := fun t k => pre74 t (by
        show Steps p.tables e below (T73.setTop (mkF m 46 #[.val (.int p1), .val (.int (4 : Int32)), .val (.ref w4), .val (.int (1 : Int32))] [(.int (1 : Int32))])) t
        refine XS.iloadN X73.here hx rfl (hb hby at_46) rfl ?_
        exact k)
    have pre76 : Go p e below T73 (mkF m 50 #[.val (.int p1), .val (.int (4 : Int32)), .val (.ref w4), .val (.int (1 : Int32))] []) s₁ (entryFrame m #[(.int p1)] maxLocals) := fun t k => pre75 t (XS.icmpNo X73.here hx rfl (hb hby at_47) rfl (teq (by decide : (1 : Int32) = (1 : Int32))).2 k)
    have pre77 : Go p e below T73 (mkF m 55 #[.val (.int p1), .val (.int (4 : Int32)), .val (.ref w4), .val (.int (1 : Int32))] [(.int (1 : Int32))]) s₁ (entryFrame m #[(.int p1)] maxLocals) := fun t k => pre76 t (by
        show Steps p.tables e below (T73.setTop (mkF m 50 #[.val (.int p1), .val (.int (4 : Int32)), .val (.ref w4), .val (.int (1 : Int32))] [])) t
        refine XS.iconst X73.here hx rfl (hb hby at_50) ?_
        show Steps p.tables e below (T73.setTop (mkF m 51 #[.val (.int p1), .val (.int (4 : Int32)), .val (.ref w4), .val (.int (1 : Int32))] [(.int (1 : Int32))])) t
        refine XS.goto X73.here hx rfl (pc0 := 51) (pc' := 55) rfl (hb hby at_51) (by decide) (by decide) ?_
        exact k)
    have hnr : Value.int (nar .boolean (1 : Int32)) = (.int (1 : Int32)) := by rfl
    obtain ⟨fs, hr, hrun, hended, hW, hsame⟩ := X73.leave (v := some (.int (1 : Int32))) (fun h => by rw [Bd.returns] at h; cases h)
    refine ⟨_, _, pre77 _ (retN X73 hx (t := .boolean) Bd.returns (by simp) (hb hby at_55) (hnr ▸ hr)), hrun, hended, _, _, rfl, ?_, ⟨_, rfl⟩, hW, hsame.mono (by decide) (by decide)⟩
    show QL Z p1 w0 w1 w2 w3 w4 w5 w6 w7 w8 h0 n0 _ T73.heap _
    rw [e73]
    exact ⟨rfl, N73⟩
  · have pre78 : Go p e below s₁ (mkF m 9 #[.val (.int p1), .val (.int (5 : Int32)), .unset, .unset] [(.int (5 : Int32))]) s₁ (entryFrame m #[(.int p1)] maxLocals) := fun t k => pre1 t (by
        show Steps p.tables e below (s₁.setTop (mkF m 7 #[.val (.int p1), .unset, .unset, .unset] [(.int ((p1 &&& (2147483647 : Int32)) % (9 : Int32)))])) t
        refine XS.istoreN X0.here hx rfl (hb hby at_7) rfl (l' := #[.val (.int p1), .val (.int (5 : Int32)), .unset, .unset]) (by rw [hv2_5]; rfl) ?_
        show Steps p.tables e below (s₁.setTop (mkF m 8 #[.val (.int p1), .val (.int (5 : Int32)), .unset, .unset] [])) t
        refine XS.iloadN X0.here hx rfl (hb hby at_8) rfl ?_
        exact k)
    obtain ⟨_, _, ⟨T79, L79, k79, n79⟩, -, X79, ⟨Lc79, hQ79, l79, y79, z79⟩, st79⟩ := Jvm.LawKit.callS X0 hx (y := (⟨"com/example/whisker/whisker/PrimitiveTypeSizePinLaw", "pick", "(I)Lcom/example/whisker/whisker/PrimitiveType;"⟩ : MethodName)) hown (mvT hZ (hw _ (List.mem_of_getElem? (i := 1) rfl))) (mvT hZ (hw _ (List.mem_of_getElem? (i := 2) rfl))) (mvT hZ (hw _ (List.mem_of_getElem? (i := 3) rfl))) (mvT hZ (hw _ (List.mem_of_getElem? (i := 4) rfl))) (by decide) (backOf (W := 0) (rmP l Z a0 hw [] (5 : Int32) w0 w1 w2 w3 w4 w5 w6 w7 w8 w5 h0 n0 Z0 S0 S1 S2 S3 S4 S5 S6 S7 S8 (by simp [pickF])) hZ (hw _ (List.mem_of_getElem? (i := 4) rfl)) (hw _ (List.mem_of_getElem? (i := 3) rfl)) (by decide) (by decide)) (g := (mkF m 9 #[.val (.int p1), .val (.int (5 : Int32)), .unset, .unset] [(.int (5 : Int32))])) rfl (by rw [hml]; rfl) (argsL := [(.int (5 : Int32))]) (rest := []) (lenOf pdL_0 rfl) rfl (by show 2 * 0 + _ ≤ _; exact Nat.le_of_eq rfl) (hb hby at_9) (fun _ _ => ⟨rfl, e0, (by decide : 0 + 0 ≤ _), (by decide : 0 + 0 ≤ _)⟩)
    dsimp only [Pt.U, Pt.locs, Pt.cells, Pt.slots] at X79 l79 y79 z79 st79 hQ79
    subst l79 y79 z79
    obtain ⟨rfl, N79q, hq79⟩ := hQ79
    have N79 := Fr.app N0 N79q
    have pre80 : Go p e below T79 (mkF m 12 #[.val (.int p1), .val (.int (5 : Int32)), .unset, .unset] [(.ref w5)]) s₁ (entryFrame m #[(.int p1)] maxLocals) := fun t k => pre78 t (st79 t k)
    have e79 : T79.heap = h0 := hq79
    have pre81 : Go p e below T79 (mkF m 16 #[.val (.int p1), .val (.int (5 : Int32)), .val (.ref w5), .unset] [(.int (8 : Int32)), (.int (5 : Int32))]) s₁ (entryFrame m #[(.int p1)] maxLocals) := fun t k => pre80 t (by
        show Steps p.tables e below (T79.setTop (mkF m 12 #[.val (.int p1), .val (.int (5 : Int32)), .unset, .unset] [(.ref w5)])) t
        refine XS.astoreN X79.here hx rfl (hb hby at_12) rfl rfl (l' := #[.val (.int p1), .val (.int (5 : Int32)), .val (.ref w5), .unset]) rfl ?_
        show Steps p.tables e below (T79.setTop (mkF m 13 #[.val (.int p1), .val (.int (5 : Int32)), .val (.ref w5), .unset] [])) t
        refine XS.iloadN X79.here hx rfl (hb hby at_13) rfl ?_
        show Steps p.tables e below (T79.setTop (mkF m 14 #[.val (.int p1), .val (.int (5 : Int32)), .val (.ref w5), .unset] [(.int (5 : Int32))])) t
        refine XS.bipush X79.here hx rfl (hb hby at_14) ?_
        exact k)
    have pre82 : Go p e below T79 (mkF m 24 #[.val (.int p1), .val (.int (5 : Int32)), .val (.ref w5), .unset] []) s₁ (entryFrame m #[(.int p1)] maxLocals) := fun t k => pre81 t (XS.icmpYes X79.here hx rfl (pc0 := 16) (pc' := 24) rfl (hb hby at_16) rfl (feq (by decide : ¬ ((5 : Int32) = (8 : Int32)))).2 (by decide) (by decide) k)
    have pre83 : Go p e below T79 (mkF m 26 #[.val (.int p1), .val (.int (5 : Int32)), .val (.ref w5), .unset] [(.int (5 : Int32)), (.int (5 : Int32))]) s₁ (entryFrame m #[(.int p1)] maxLocals) := fun t k => pre82 t (by
        show Steps p.tables e below (T79.setTop (mkF m 24 #[.val (.int p1), .val (.int (5 : Int32)), .val (.ref w5), .unset] [])) t
        refine XS.iloadN X79.here hx rfl (hb hby at_24) rfl ?_
        show Steps p.tables e below (T79.setTop (mkF m 25 #[.val (.int p1), .val (.int (5 : Int32)), .val (.ref w5), .unset] [(.int (5 : Int32))])) t
        refine XS.iconst X79.here hx rfl (hb hby at_25) ?_
        exact k)
    have pre84 : Go p e below T79 (mkF m 35 #[.val (.int p1), .val (.int (5 : Int32)), .val (.ref w5), .unset] []) s₁ (entryFrame m #[(.int p1)] maxLocals) := fun t k => pre83 t (XS.icmpYes X79.here hx rfl (pc0 := 26) (pc' := 35) rfl (hb hby at_26) rfl (teq (by decide : (5 : Int32) = (5 : Int32))).1 (by decide) (by decide) k)
    have pre85 : Go p e below T79 (mkF m 43 #[.val (.int p1), .val (.int (5 : Int32)), .val (.ref w5), .val (.int (2 : Int32))] [(.ref w5)]) s₁ (entryFrame m #[(.int p1)] maxLocals) := fun t k => pre84 t (by
        show Steps p.tables e below (T79.setTop (mkF m 35 #[.val (.int p1), .val (.int (5 : Int32)), .val (.ref w5), .unset] [])) t
        refine XS.iconst X79.here hx rfl (hb hby at_35) ?_
        show Steps p.tables e below (T79.setTop (mkF m 36 #[.val (.int p1), .val (.int (5 : Int32)), .val (.ref w5), .unset] [(.int (2 : Int32))])) t
        refine XS.istoreN X79.here hx rfl (hb hby at_36) rfl (l' := #[.val (.int p1), .val (.int (5 : Int32)), .val (.ref w5), .val (.int (2 : Int32))]) rfl ?_
        show Steps p.tables e below (T79.setTop (mkF m 37 #[.val (.int p1), .val (.int (5 : Int32)), .val (.ref w5), .val (.int (2 : Int32))] [])) t
        refine XS.goto X79.here hx rfl (pc0 := 37) (pc' := 42) rfl (hb hby at_37) (by decide) (by decide) ?_
        show Steps p.tables e below (T79.setTop (mkF m 42 #[.val (.int p1), .val (.int (5 : Int32)), .val (.ref w5), .val (.int (2 : Int32))] [])) t
        refine XS.aloadN X79.here hx rfl (hb hby at_42) rfl rfl ?_
        exact k)
    obtain ⟨cq86, kq86, q86a, q86b, q86c⟩ := isOf hZ e79 E5
    obtain ⟨_, _, ⟨T86, L86, k86, n86⟩, -, X86, ⟨Lc86, hQ86, l86, y86, z86⟩, st86⟩ := X79.virtualBack hx (y := (⟨"com/example/whisker/whisker/PrimitiveType", "size", "()I"⟩ : MethodName)) (z := (⟨"com/example/whisker/whisker/PrimitiveType", "size", "()I"⟩ : MethodName)) hown (mvT hZ (hw _ (List.mem_of_getElem? (i := 8) rfl))) (mvT hZ (hw _ (List.mem_of_getElem? (i := 9) rfl))) (notFace_of_selects (args := #[]) (mvT hZ (hw _ (List.mem_of_getElem? (i := 11) rfl)))) (mvT hZ (hw _ (List.mem_of_getElem? (i := 11) rfl))) (mvT hZ (hw _ (List.mem_of_getElem? (i := 10) rfl))) (by decide) (backOf (W := 0) (rmS l Z a0 hw [] w5 5 2 h0 n0 Z0 E5 F5 (by decide) (by decide)) hZ (hw _ (List.mem_of_getElem? (i := 12) rfl)) (hw _ (List.mem_of_getElem? (i := 6) rfl)) (by decide) (by decide)) q86a q86c (g := (mkF m 43 #[.val (.int p1), .val (.int (5 : Int32)), .val (.ref w5), .val (.int (2 : Int32))] [(.ref w5)])) rfl (by rw [hml]; rfl) (Steps.refl _) (argsL := []) (rest := []) (lenOf pdL_1 rfl) rfl (by show 2 * 0 + _ ≤ _; exact Nat.le_of_eq rfl) (hb hby at_43) (fun _ _ => ⟨rfl, e79, (by decide : 0 + 0 ≤ _), (by decide : 0 + 0 ≤ _)⟩)
    dsimp only [Pt.U, Pt.locs, Pt.cells, Pt.slots] at X86 l86 y86 z86 st86 hQ86
    subst l86 y86 z86
    obtain ⟨rfl, N86q, hq86⟩ := hQ86
    have N86 := Fr.app N79 N86q
    have pre87 : Go p e below T86 (mkF m 46 #[.val (.int p1), .val (.int (5 : Int32)), .val (.ref w5), .val (.int (2 : Int32))] [(.int (2 : Int32))]) s₁ (entryFrame m #[(.int p1)] maxLocals) := fun t k => pre85 t (st86.trans k)
    have e86 : T86.heap = h0 := hq86
    have pre88 : Go p e below T86 (mkF m 47 #[.val (.int p1), .val (.int (5 : Int32)), .val (.ref w5), .val (.int (2 : Int32))] [(.int (2 : Int32)), (.int (2 : Int32))]) s₁ (entryFrame m #[(.int p1)] maxLocals) := fun t k => pre87 t (by
        show Steps p.tables e below (T86.setTop (mkF m 46 #[.val (.int p1), .val (.int (5 : Int32)), .val (.ref w5), .val (.int (2 : Int32))] [(.int (2 : Int32))])) t
        refine XS.iloadN X86.here hx rfl (hb hby at_46) rfl ?_
        exact k)
    have pre89 : Go p e below T86 (mkF m 50 #[.val (.int p1), .val (.int (5 : Int32)), .val (.ref w5), .val (.int (2 : Int32))] []) s₁ (entryFrame m #[(.int p1)] maxLocals) := fun t k => pre88 t (XS.icmpNo X86.here hx rfl (hb hby at_47) rfl (teq (by decide : (2 : Int32) = (2 : Int32))).2 k)
    have pre90 : Go p e below T86 (mkF m 55 #[.val (.int p1), .val (.int (5 : Int32)), .val (.ref w5), .val (.int (2 : Int32))] [(.int (1 : Int32))]) s₁ (entryFrame m #[(.int p1)] maxLocals) := fun t k => pre89 t (by
        show Steps p.tables e below (T86.setTop (mkF m 50 #[.val (.int p1), .val (.int (5 : Int32)), .val (.ref w5), .val (.int (2 : Int32))] [])) t
        refine XS.iconst X86.here hx rfl (hb hby at_50) ?_
        show Steps p.tables e below (T86.setTop (mkF m 51 #[.val (.int p1), .val (.int (5 : Int32)), .val (.ref w5), .val (.int (2 : Int32))] [(.int (1 : Int32))])) t
        refine XS.goto X86.here hx rfl (pc0 := 51) (pc' := 55) rfl (hb hby at_51) (by decide) (by decide) ?_
        exact k)
    have hnr : Value.int (nar .boolean (1 : Int32)) = (.int (1 : Int32)) := by rfl
    obtain ⟨fs, hr, hrun, hended, hW, hsame⟩ := X86.leave (v := some (.int (1 : Int32))) (fun h => by rw [Bd.returns] at h; cases h)
    refine ⟨_, _, pre90 _ (retN X86 hx (t := .boolean) Bd.returns (by simp) (hb hby at_55) (hnr ▸ hr)), hrun, hended, _, _, rfl, ?_, ⟨_, rfl⟩, hW, hsame.mono (by decide) (by decide)⟩
    show QL Z p1 w0 w1 w2 w3 w4 w5 w6 w7 w8 h0 n0 _ T86.heap _
    rw [e86]
    exact ⟨rfl, N86⟩
  · have pre91 : Go p e below s₁ (mkF m 9 #[.val (.int p1), .val (.int (6 : Int32)), .unset, .unset] [(.int (6 : Int32))]) s₁ (entryFrame m #[(.int p1)] maxLocals) := fun t k => pre1 t (by
        show Steps p.tables e below (s₁.setTop (mkF m 7 #[.val (.int p1), .unset, .unset, .unset] [(.int ((p1 &&& (2147483647 : Int32)) % (9 : Int32)))])) t
        refine XS.istoreN X0.here hx rfl (hb hby at_7) rfl (l' := #[.val (.int p1), .val (.int (6 : Int32)), .unset, .unset]) (by rw [hv2_6]; rfl) ?_
        show Steps p.tables e below (s₁.setTop (mkF m 8 #[.val (.int p1), .val (.int (6 : Int32)), .unset, .unset] [])) t
        refine XS.iloadN X0.here hx rfl (hb hby at_8) rfl ?_
        exact k)
    obtain ⟨_, _, ⟨T92, L92, k92, n92⟩, -, X92, ⟨Lc92, hQ92, l92, y92, z92⟩, st92⟩ := Jvm.LawKit.callS X0 hx (y := (⟨"com/example/whisker/whisker/PrimitiveTypeSizePinLaw", "pick", "(I)Lcom/example/whisker/whisker/PrimitiveType;"⟩ : MethodName)) hown (mvT hZ (hw _ (List.mem_of_getElem? (i := 1) rfl))) (mvT hZ (hw _ (List.mem_of_getElem? (i := 2) rfl))) (mvT hZ (hw _ (List.mem_of_getElem? (i := 3) rfl))) (mvT hZ (hw _ (List.mem_of_getElem? (i := 4) rfl))) (by decide) (backOf (W := 0) (rmP l Z a0 hw [] (6 : Int32) w0 w1 w2 w3 w4 w5 w6 w7 w8 w6 h0 n0 Z0 S0 S1 S2 S3 S4 S5 S6 S7 S8 (by simp [pickF])) hZ (hw _ (List.mem_of_getElem? (i := 4) rfl)) (hw _ (List.mem_of_getElem? (i := 3) rfl)) (by decide) (by decide)) (g := (mkF m 9 #[.val (.int p1), .val (.int (6 : Int32)), .unset, .unset] [(.int (6 : Int32))])) rfl (by rw [hml]; rfl) (argsL := [(.int (6 : Int32))]) (rest := []) (lenOf pdL_0 rfl) rfl (by show 2 * 0 + _ ≤ _; exact Nat.le_of_eq rfl) (hb hby at_9) (fun _ _ => ⟨rfl, e0, (by decide : 0 + 0 ≤ _), (by decide : 0 + 0 ≤ _)⟩)
    dsimp only [Pt.U, Pt.locs, Pt.cells, Pt.slots] at X92 l92 y92 z92 st92 hQ92
    subst l92 y92 z92
    obtain ⟨rfl, N92q, hq92⟩ := hQ92
    have N92 := Fr.app N0 N92q
    have pre93 : Go p e below T92 (mkF m 12 #[.val (.int p1), .val (.int (6 : Int32)), .unset, .unset] [(.ref w6)]) s₁ (entryFrame m #[(.int p1)] maxLocals) := fun t k => pre91 t (st92 t k)
    have e92 : T92.heap = h0 := hq92
    have pre94 : Go p e below T92 (mkF m 16 #[.val (.int p1), .val (.int (6 : Int32)), .val (.ref w6), .unset] [(.int (8 : Int32)), (.int (6 : Int32))]) s₁ (entryFrame m #[(.int p1)] maxLocals) := fun t k => pre93 t (by
        show Steps p.tables e below (T92.setTop (mkF m 12 #[.val (.int p1), .val (.int (6 : Int32)), .unset, .unset] [(.ref w6)])) t
        refine XS.astoreN X92.here hx rfl (hb hby at_12) rfl rfl (l' := #[.val (.int p1), .val (.int (6 : Int32)), .val (.ref w6), .unset]) rfl ?_
        show Steps p.tables e below (T92.setTop (mkF m 13 #[.val (.int p1), .val (.int (6 : Int32)), .val (.ref w6), .unset] [])) t
        refine XS.iloadN X92.here hx rfl (hb hby at_13) rfl ?_
        show Steps p.tables e below (T92.setTop (mkF m 14 #[.val (.int p1), .val (.int (6 : Int32)), .val (.ref w6), .unset] [(.int (6 : Int32))])) t
        refine XS.bipush X92.here hx rfl (hb hby at_14) ?_
        exact k)
    have pre95 : Go p e below T92 (mkF m 24 #[.val (.int p1), .val (.int (6 : Int32)), .val (.ref w6), .unset] []) s₁ (entryFrame m #[(.int p1)] maxLocals) := fun t k => pre94 t (XS.icmpYes X92.here hx rfl (pc0 := 16) (pc' := 24) rfl (hb hby at_16) rfl (feq (by decide : ¬ ((6 : Int32) = (8 : Int32)))).2 (by decide) (by decide) k)
    have pre96 : Go p e below T92 (mkF m 26 #[.val (.int p1), .val (.int (6 : Int32)), .val (.ref w6), .unset] [(.int (5 : Int32)), (.int (6 : Int32))]) s₁ (entryFrame m #[(.int p1)] maxLocals) := fun t k => pre95 t (by
        show Steps p.tables e below (T92.setTop (mkF m 24 #[.val (.int p1), .val (.int (6 : Int32)), .val (.ref w6), .unset] [])) t
        refine XS.iloadN X92.here hx rfl (hb hby at_24) rfl ?_
        show Steps p.tables e below (T92.setTop (mkF m 25 #[.val (.int p1), .val (.int (6 : Int32)), .val (.ref w6), .unset] [(.int (6 : Int32))])) t
        refine XS.iconst X92.here hx rfl (hb hby at_25) ?_
        exact k)
    have pre97 : Go p e below T92 (mkF m 29 #[.val (.int p1), .val (.int (6 : Int32)), .val (.ref w6), .unset] []) s₁ (entryFrame m #[(.int p1)] maxLocals) := fun t k => pre96 t (XS.icmpNo X92.here hx rfl (hb hby at_26) rfl (feq (by decide : ¬ ((6 : Int32) = (5 : Int32)))).1 k)
    have pre98 : Go p e below T92 (mkF m 32 #[.val (.int p1), .val (.int (6 : Int32)), .val (.ref w6), .unset] [(.int (7 : Int32)), (.int (6 : Int32))]) s₁ (entryFrame m #[(.int p1)] maxLocals) := fun t k => pre97 t (by
        show Steps p.tables e below (T92.setTop (mkF m 29 #[.val (.int p1), .val (.int (6 : Int32)), .val (.ref w6), .unset] [])) t
        refine XS.iloadN X92.here hx rfl (hb hby at_29) rfl ?_
        show Steps p.tables e below (T92.setTop (mkF m 30 #[.val (.int p1), .val (.int (6 : Int32)), .val (.ref w6), .unset] [(.int (6 : Int32))])) t
        refine XS.bipush X92.here hx rfl (hb hby at_30) ?_
        exact k)
    have pre99 : Go p e below T92 (mkF m 40 #[.val (.int p1), .val (.int (6 : Int32)), .val (.ref w6), .unset] []) s₁ (entryFrame m #[(.int p1)] maxLocals) := fun t k => pre98 t (XS.icmpYes X92.here hx rfl (pc0 := 32) (pc' := 40) rfl (hb hby at_32) rfl (feq (by decide : ¬ ((6 : Int32) = (7 : Int32)))).2 (by decide) (by decide) k)
    have pre100 : Go p e below T92 (mkF m 43 #[.val (.int p1), .val (.int (6 : Int32)), .val (.ref w6), .val (.int (1 : Int32))] [(.ref w6)]) s₁ (entryFrame m #[(.int p1)] maxLocals) := fun t k => pre99 t (by
        show Steps p.tables e below (T92.setTop (mkF m 40 #[.val (.int p1), .val (.int (6 : Int32)), .val (.ref w6), .unset] [])) t
        refine XS.iconst X92.here hx rfl (hb hby at_40) ?_
        show Steps p.tables e below (T92.setTop (mkF m 41 #[.val (.int p1), .val (.int (6 : Int32)), .val (.ref w6), .unset] [(.int (1 : Int32))])) t
        refine XS.istoreN X92.here hx rfl (hb hby at_41) rfl (l' := #[.val (.int p1), .val (.int (6 : Int32)), .val (.ref w6), .val (.int (1 : Int32))]) rfl ?_
        show Steps p.tables e below (T92.setTop (mkF m 42 #[.val (.int p1), .val (.int (6 : Int32)), .val (.ref w6), .val (.int (1 : Int32))] [])) t
        refine XS.aloadN X92.here hx rfl (hb hby at_42) rfl rfl ?_
        exact k)
    obtain ⟨cq101, kq101, q101a, q101b, q101c⟩ := isOf hZ e92 E6
    obtain ⟨_, _, ⟨T101, L101, k101, n101⟩, -, X101, ⟨Lc101, hQ101, l101, y101, z101⟩, st101⟩ := X92.virtualBack hx (y := (⟨"com/example/whisker/whisker/PrimitiveType", "size", "()I"⟩ : MethodName)) (z := (⟨"com/example/whisker/whisker/PrimitiveType", "size", "()I"⟩ : MethodName)) hown (mvT hZ (hw _ (List.mem_of_getElem? (i := 8) rfl))) (mvT hZ (hw _ (List.mem_of_getElem? (i := 9) rfl))) (notFace_of_selects (args := #[]) (mvT hZ (hw _ (List.mem_of_getElem? (i := 11) rfl)))) (mvT hZ (hw _ (List.mem_of_getElem? (i := 11) rfl))) (mvT hZ (hw _ (List.mem_of_getElem? (i := 10) rfl))) (by decide) (backOf (W := 0) (rmS l Z a0 hw [] w6 6 1 h0 n0 Z0 E6 F6 (by decide) (by decide)) hZ (hw _ (List.mem_of_getElem? (i := 12) rfl)) (hw _ (List.mem_of_getElem? (i := 6) rfl)) (by decide) (by decide)) q101a q101c (g := (mkF m 43 #[.val (.int p1), .val (.int (6 : Int32)), .val (.ref w6), .val (.int (1 : Int32))] [(.ref w6)])) rfl (by rw [hml]; rfl) (Steps.refl _) (argsL := []) (rest := []) (lenOf pdL_1 rfl) rfl (by show 2 * 0 + _ ≤ _; exact Nat.le_of_eq rfl) (hb hby at_43) (fun _ _ => ⟨rfl, e92, (by decide : 0 + 0 ≤ _), (by decide : 0 + 0 ≤ _)⟩)
    dsimp only [Pt.U, Pt.locs, Pt.cells, Pt.slots] at X101 l101 y101 z101 st101 hQ101
    subst l101 y101 z101
    obtain ⟨rfl, N101q, hq101⟩ := hQ101
    have N101 := Fr.app N92 N101q
    have pre102 : Go p e below T101 (mkF m 46 #[.val (.int p1), .val (.int (6 : Int32)), .val (.ref w6), .val (.int (1 : Int32))] [(.int (1 : Int32))]) s₁ (entryFrame m #[(.int p1)] maxLocals) := fun t k => pre100 t (st101.trans k)
    have e101 : T101.heap = h0 := hq101
    have pre103 : Go p e below T101 (mkF m 47 #[.val (.int p1), .val (.int (6 : Int32)), .val (.ref w6), .val (.int (1 : Int32))] [(.int (1 : Int32)), (.int (1 : Int32))]) s₁ (entryFrame m #[(.int p1)] maxLocals) := fun t k => pre102 t (by
        show Steps p.tables e below (T101.setTop (mkF m 46 #[.val (.int p1), .val (.int (6 : Int32)), .val (.ref w6), .val (.int (1 : Int32))] [(.int (1 : Int32))])) t
        refine XS.iloadN X101.here hx rfl (hb hby at_46) rfl ?_
        exact k)
    have pre104 : Go p e below T101 (mkF m 50 #[.val (.int p1), .val (.int (6 : Int32)), .val (.ref w6), .val (.int (1 : Int32))] []) s₁ (entryFrame m #[(.int p1)] maxLocals) := fun t k => pre103 t (XS.icmpNo X101.here hx rfl (hb hby at_47) rfl (teq (by decide : (1 : Int32) = (1 : Int32))).2 k)
    have pre105 : Go p e below T101 (mkF m 55 #[.val (.int p1), .val (.int (6 : Int32)), .val (.ref w6), .val (.int (1 : Int32))] [(.int (1 : Int32))]) s₁ (entryFrame m #[(.int p1)] maxLocals) := fun t k => pre104 t (by
        show Steps p.tables e below (T101.setTop (mkF m 50 #[.val (.int p1), .val (.int (6 : Int32)), .val (.ref w6), .val (.int (1 : Int32))] [])) t
        refine XS.iconst X101.here hx rfl (hb hby at_50) ?_
        show Steps p.tables e below (T101.setTop (mkF m 51 #[.val (.int p1), .val (.int (6 : Int32)), .val (.ref w6), .val (.int (1 : Int32))] [(.int (1 : Int32))])) t
        refine XS.goto X101.here hx rfl (pc0 := 51) (pc' := 55) rfl (hb hby at_51) (by decide) (by decide) ?_
        exact k)
    have hnr : Value.int (nar .boolean (1 : Int32)) = (.int (1 : Int32)) := by rfl
    obtain ⟨fs, hr, hrun, hended, hW, hsame⟩ := X101.leave (v := some (.int (1 : Int32))) (fun h => by rw [Bd.returns] at h; cases h)
    refine ⟨_, _, pre105 _ (retN X101 hx (t := .boolean) Bd.returns (by simp) (hb hby at_55) (hnr ▸ hr)), hrun, hended, _, _, rfl, ?_, ⟨_, rfl⟩, hW, hsame.mono (by decide) (by decide)⟩
    show QL Z p1 w0 w1 w2 w3 w4 w5 w6 w7 w8 h0 n0 _ T101.heap _
    rw [e101]
    exact ⟨rfl, N101⟩
  · have pre106 : Go p e below s₁ (mkF m 9 #[.val (.int p1), .val (.int (7 : Int32)), .unset, .unset] [(.int (7 : Int32))]) s₁ (entryFrame m #[(.int p1)] maxLocals) := fun t k => pre1 t (by
        show Steps p.tables e below (s₁.setTop (mkF m 7 #[.val (.int p1), .unset, .unset, .unset] [(.int ((p1 &&& (2147483647 : Int32)) % (9 : Int32)))])) t
        refine XS.istoreN X0.here hx rfl (hb hby at_7) rfl (l' := #[.val (.int p1), .val (.int (7 : Int32)), .unset, .unset]) (by rw [hv2_7]; rfl) ?_
        show Steps p.tables e below (s₁.setTop (mkF m 8 #[.val (.int p1), .val (.int (7 : Int32)), .unset, .unset] [])) t
        refine XS.iloadN X0.here hx rfl (hb hby at_8) rfl ?_
        exact k)
    obtain ⟨_, _, ⟨T107, L107, k107, n107⟩, -, X107, ⟨Lc107, hQ107, l107, y107, z107⟩, st107⟩ := Jvm.LawKit.callS X0 hx (y := (⟨"com/example/whisker/whisker/PrimitiveTypeSizePinLaw", "pick", "(I)Lcom/example/whisker/whisker/PrimitiveType;"⟩ : MethodName)) hown (mvT hZ (hw _ (List.mem_of_getElem? (i := 1) rfl))) (mvT hZ (hw _ (List.mem_of_getElem? (i := 2) rfl))) (mvT hZ (hw _ (List.mem_of_getElem? (i := 3) rfl))) (mvT hZ (hw _ (List.mem_of_getElem? (i := 4) rfl))) (by decide) (backOf (W := 0) (rmP l Z a0 hw [] (7 : Int32) w0 w1 w2 w3 w4 w5 w6 w7 w8 w7 h0 n0 Z0 S0 S1 S2 S3 S4 S5 S6 S7 S8 (by simp [pickF])) hZ (hw _ (List.mem_of_getElem? (i := 4) rfl)) (hw _ (List.mem_of_getElem? (i := 3) rfl)) (by decide) (by decide)) (g := (mkF m 9 #[.val (.int p1), .val (.int (7 : Int32)), .unset, .unset] [(.int (7 : Int32))])) rfl (by rw [hml]; rfl) (argsL := [(.int (7 : Int32))]) (rest := []) (lenOf pdL_0 rfl) rfl (by show 2 * 0 + _ ≤ _; exact Nat.le_of_eq rfl) (hb hby at_9) (fun _ _ => ⟨rfl, e0, (by decide : 0 + 0 ≤ _), (by decide : 0 + 0 ≤ _)⟩)
    dsimp only [Pt.U, Pt.locs, Pt.cells, Pt.slots] at X107 l107 y107 z107 st107 hQ107
    subst l107 y107 z107
    obtain ⟨rfl, N107q, hq107⟩ := hQ107
    have N107 := Fr.app N0 N107q
    have pre108 : Go p e below T107 (mkF m 12 #[.val (.int p1), .val (.int (7 : Int32)), .unset, .unset] [(.ref w7)]) s₁ (entryFrame m #[(.int p1)] maxLocals) := fun t k => pre106 t (st107 t k)
    have e107 : T107.heap = h0 := hq107
    have pre109 : Go p e below T107 (mkF m 16 #[.val (.int p1), .val (.int (7 : Int32)), .val (.ref w7), .unset] [(.int (8 : Int32)), (.int (7 : Int32))]) s₁ (entryFrame m #[(.int p1)] maxLocals) := fun t k => pre108 t (by
        show Steps p.tables e below (T107.setTop (mkF m 12 #[.val (.int p1), .val (.int (7 : Int32)), .unset, .unset] [(.ref w7)])) t
        refine XS.astoreN X107.here hx rfl (hb hby at_12) rfl rfl (l' := #[.val (.int p1), .val (.int (7 : Int32)), .val (.ref w7), .unset]) rfl ?_
        show Steps p.tables e below (T107.setTop (mkF m 13 #[.val (.int p1), .val (.int (7 : Int32)), .val (.ref w7), .unset] [])) t
        refine XS.iloadN X107.here hx rfl (hb hby at_13) rfl ?_
        show Steps p.tables e below (T107.setTop (mkF m 14 #[.val (.int p1), .val (.int (7 : Int32)), .val (.ref w7), .unset] [(.int (7 : Int32))])) t
        refine XS.bipush X107.here hx rfl (hb hby at_14) ?_
        exact k)
    have pre110 : Go p e below T107 (mkF m 24 #[.val (.int p1), .val (.int (7 : Int32)), .val (.ref w7), .unset] []) s₁ (entryFrame m #[(.int p1)] maxLocals) := fun t k => pre109 t (XS.icmpYes X107.here hx rfl (pc0 := 16) (pc' := 24) rfl (hb hby at_16) rfl (feq (by decide : ¬ ((7 : Int32) = (8 : Int32)))).2 (by decide) (by decide) k)
    have pre111 : Go p e below T107 (mkF m 26 #[.val (.int p1), .val (.int (7 : Int32)), .val (.ref w7), .unset] [(.int (5 : Int32)), (.int (7 : Int32))]) s₁ (entryFrame m #[(.int p1)] maxLocals) := fun t k => pre110 t (by
        show Steps p.tables e below (T107.setTop (mkF m 24 #[.val (.int p1), .val (.int (7 : Int32)), .val (.ref w7), .unset] [])) t
        refine XS.iloadN X107.here hx rfl (hb hby at_24) rfl ?_
        show Steps p.tables e below (T107.setTop (mkF m 25 #[.val (.int p1), .val (.int (7 : Int32)), .val (.ref w7), .unset] [(.int (7 : Int32))])) t
        refine XS.iconst X107.here hx rfl (hb hby at_25) ?_
        exact k)
    have pre112 : Go p e below T107 (mkF m 29 #[.val (.int p1), .val (.int (7 : Int32)), .val (.ref w7), .unset] []) s₁ (entryFrame m #[(.int p1)] maxLocals) := fun t k => pre111 t (XS.icmpNo X107.here hx rfl (hb hby at_26) rfl (feq (by decide : ¬ ((7 : Int32) = (5 : Int32)))).1 k)
    have pre113 : Go p e below T107 (mkF m 32 #[.val (.int p1), .val (.int (7 : Int32)), .val (.ref w7), .unset] [(.int (7 : Int32)), (.int (7 : Int32))]) s₁ (entryFrame m #[(.int p1)] maxLocals) := fun t k => pre112 t (by
        show Steps p.tables e below (T107.setTop (mkF m 29 #[.val (.int p1), .val (.int (7 : Int32)), .val (.ref w7), .unset] [])) t
        refine XS.iloadN X107.here hx rfl (hb hby at_29) rfl ?_
        show Steps p.tables e below (T107.setTop (mkF m 30 #[.val (.int p1), .val (.int (7 : Int32)), .val (.ref w7), .unset] [(.int (7 : Int32))])) t
        refine XS.bipush X107.here hx rfl (hb hby at_30) ?_
        exact k)
    have pre114 : Go p e below T107 (mkF m 35 #[.val (.int p1), .val (.int (7 : Int32)), .val (.ref w7), .unset] []) s₁ (entryFrame m #[(.int p1)] maxLocals) := fun t k => pre113 t (XS.icmpNo X107.here hx rfl (hb hby at_32) rfl (teq (by decide : (7 : Int32) = (7 : Int32))).2 k)
    have pre115 : Go p e below T107 (mkF m 43 #[.val (.int p1), .val (.int (7 : Int32)), .val (.ref w7), .val (.int (2 : Int32))] [(.ref w7)]) s₁ (entryFrame m #[(.int p1)] maxLocals) := fun t k => pre114 t (by
        show Steps p.tables e below (T107.setTop (mkF m 35 #[.val (.int p1), .val (.int (7 : Int32)), .val (.ref w7), .unset] [])) t
        refine XS.iconst X107.here hx rfl (hb hby at_35) ?_
        show Steps p.tables e below (T107.setTop (mkF m 36 #[.val (.int p1), .val (.int (7 : Int32)), .val (.ref w7), .unset] [(.int (2 : Int32))])) t
        refine XS.istoreN X107.here hx rfl (hb hby at_36) rfl (l' := #[.val (.int p1), .val (.int (7 : Int32)), .val (.ref w7), .val (.int (2 : Int32))]) rfl ?_
        show Steps p.tables e below (T107.setTop (mkF m 37 #[.val (.int p1), .val (.int (7 : Int32)), .val (.ref w7), .val (.int (2 : Int32))] [])) t
        refine XS.goto X107.here hx rfl (pc0 := 37) (pc' := 42) rfl (hb hby at_37) (by decide) (by decide) ?_
        show Steps p.tables e below (T107.setTop (mkF m 42 #[.val (.int p1), .val (.int (7 : Int32)), .val (.ref w7), .val (.int (2 : Int32))] [])) t
        refine XS.aloadN X107.here hx rfl (hb hby at_42) rfl rfl ?_
        exact k)
    obtain ⟨cq116, kq116, q116a, q116b, q116c⟩ := isOf hZ e107 E7
    obtain ⟨_, _, ⟨T116, L116, k116, n116⟩, -, X116, ⟨Lc116, hQ116, l116, y116, z116⟩, st116⟩ := X107.virtualBack hx (y := (⟨"com/example/whisker/whisker/PrimitiveType", "size", "()I"⟩ : MethodName)) (z := (⟨"com/example/whisker/whisker/PrimitiveType", "size", "()I"⟩ : MethodName)) hown (mvT hZ (hw _ (List.mem_of_getElem? (i := 8) rfl))) (mvT hZ (hw _ (List.mem_of_getElem? (i := 9) rfl))) (notFace_of_selects (args := #[]) (mvT hZ (hw _ (List.mem_of_getElem? (i := 11) rfl)))) (mvT hZ (hw _ (List.mem_of_getElem? (i := 11) rfl))) (mvT hZ (hw _ (List.mem_of_getElem? (i := 10) rfl))) (by decide) (backOf (W := 0) (rmS l Z a0 hw [] w7 7 2 h0 n0 Z0 E7 F7 (by decide) (by decide)) hZ (hw _ (List.mem_of_getElem? (i := 12) rfl)) (hw _ (List.mem_of_getElem? (i := 6) rfl)) (by decide) (by decide)) q116a q116c (g := (mkF m 43 #[.val (.int p1), .val (.int (7 : Int32)), .val (.ref w7), .val (.int (2 : Int32))] [(.ref w7)])) rfl (by rw [hml]; rfl) (Steps.refl _) (argsL := []) (rest := []) (lenOf pdL_1 rfl) rfl (by show 2 * 0 + _ ≤ _; exact Nat.le_of_eq rfl) (hb hby at_43) (fun _ _ => ⟨rfl, e107, (by decide : 0 + 0 ≤ _), (by decide : 0 + 0 ≤ _)⟩)
    dsimp only [Pt.U, Pt.locs, Pt.cells, Pt.slots] at X116 l116 y116 z116 st116 hQ116
    subst l116 y116 z116
    obtain ⟨rfl, N116q, hq116⟩ := hQ116
    have N116 := Fr.app N107 N116q
    have pre117 : Go p e below T116 (mkF m 46 #[.val (.int p1), .val (.int (7 : Int32)), .val (.ref w7), .val (.int (2 : Int32))] [(.int (2 : Int32))]) s₁ (entryFrame m #[(.int p1)] maxLocals) := fun t k => pre115 t (st116.trans k)
    have e116 : T116.heap = h0 := hq116
    have pre118 : Go p e below T116 (mkF m 47 #[.val (.int p1), .val (.int (7 : Int32)), .val (.ref w7), .val (.int (2 : Int32))] [(.int (2 : Int32)), (.int (2 : Int32))]) s₁ (entryFrame m #[(.int p1)] maxLocals) := fun t k => pre117 t (by
        show Steps p.tables e below (T116.setTop (mkF m 46 #[.val (.int p1), .val (.int (7 : Int32)), .val (.ref w7), .val (.int (2 : Int32))] [(.int (2 : Int32))])) t
        refine XS.iloadN X116.here hx rfl (hb hby at_46) rfl ?_
        exact k)
    have pre119 : Go p e below T116 (mkF m 50 #[.val (.int p1), .val (.int (7 : Int32)), .val (.ref w7), .val (.int (2 : Int32))] []) s₁ (entryFrame m #[(.int p1)] maxLocals) := fun t k => pre118 t (XS.icmpNo X116.here hx rfl (hb hby at_47) rfl (teq (by decide : (2 : Int32) = (2 : Int32))).2 k)
    have pre120 : Go p e below T116 (mkF m 55 #[.val (.int p1), .val (.int (7 : Int32)), .val (.ref w7), .val (.int (2 : Int32))] [(.int (1 : Int32))]) s₁ (entryFrame m #[(.int p1)] maxLocals) := fun t k => pre119 t (by
        show Steps p.tables e below (T116.setTop (mkF m 50 #[.val (.int p1), .val (.int (7 : Int32)), .val (.ref w7), .val (.int (2 : Int32))] [])) t
        refine XS.iconst X116.here hx rfl (hb hby at_50) ?_
        show Steps p.tables e below (T116.setTop (mkF m 51 #[.val (.int p1), .val (.int (7 : Int32)), .val (.ref w7), .val (.int (2 : Int32))] [(.int (1 : Int32))])) t
        refine XS.goto X116.here hx rfl (pc0 := 51) (pc' := 55) rfl (hb hby at_51) (by decide) (by decide) ?_
        exact k)
    have hnr : Value.int (nar .boolean (1 : Int32)) = (.int (1 : Int32)) := by rfl
    obtain ⟨fs, hr, hrun, hended, hW, hsame⟩ := X116.leave (v := some (.int (1 : Int32))) (fun h => by rw [Bd.returns] at h; cases h)
    refine ⟨_, _, pre120 _ (retN X116 hx (t := .boolean) Bd.returns (by simp) (hb hby at_55) (hnr ▸ hr)), hrun, hended, _, _, rfl, ?_, ⟨_, rfl⟩, hW, hsame.mono (by decide) (by decide)⟩
    show QL Z p1 w0 w1 w2 w3 w4 w5 w6 w7 w8 h0 n0 _ T116.heap _
    rw [e116]
    exact ⟨rfl, N116⟩
  · have pre121 : Go p e below s₁ (mkF m 9 #[.val (.int p1), .val (.int (8 : Int32)), .unset, .unset] [(.int (8 : Int32))]) s₁ (entryFrame m #[(.int p1)] maxLocals) := fun t k => pre1 t (by
        show Steps p.tables e below (s₁.setTop (mkF m 7 #[.val (.int p1), .unset, .unset, .unset] [(.int ((p1 &&& (2147483647 : Int32)) % (9 : Int32)))])) t
        refine XS.istoreN X0.here hx rfl (hb hby at_7) rfl (l' := #[.val (.int p1), .val (.int (8 : Int32)), .unset, .unset]) (by rw [hv2_8]; rfl) ?_
        show Steps p.tables e below (s₁.setTop (mkF m 8 #[.val (.int p1), .val (.int (8 : Int32)), .unset, .unset] [])) t
        refine XS.iloadN X0.here hx rfl (hb hby at_8) rfl ?_
        exact k)
    obtain ⟨_, _, ⟨T122, L122, k122, n122⟩, -, X122, ⟨Lc122, hQ122, l122, y122, z122⟩, st122⟩ := Jvm.LawKit.callS X0 hx (y := (⟨"com/example/whisker/whisker/PrimitiveTypeSizePinLaw", "pick", "(I)Lcom/example/whisker/whisker/PrimitiveType;"⟩ : MethodName)) hown (mvT hZ (hw _ (List.mem_of_getElem? (i := 1) rfl))) (mvT hZ (hw _ (List.mem_of_getElem? (i := 2) rfl))) (mvT hZ (hw _ (List.mem_of_getElem? (i := 3) rfl))) (mvT hZ (hw _ (List.mem_of_getElem? (i := 4) rfl))) (by decide) (backOf (W := 0) (rmP l Z a0 hw [] (8 : Int32) w0 w1 w2 w3 w4 w5 w6 w7 w8 w8 h0 n0 Z0 S0 S1 S2 S3 S4 S5 S6 S7 S8 (by simp [pickF])) hZ (hw _ (List.mem_of_getElem? (i := 4) rfl)) (hw _ (List.mem_of_getElem? (i := 3) rfl)) (by decide) (by decide)) (g := (mkF m 9 #[.val (.int p1), .val (.int (8 : Int32)), .unset, .unset] [(.int (8 : Int32))])) rfl (by rw [hml]; rfl) (argsL := [(.int (8 : Int32))]) (rest := []) (lenOf pdL_0 rfl) rfl (by show 2 * 0 + _ ≤ _; exact Nat.le_of_eq rfl) (hb hby at_9) (fun _ _ => ⟨rfl, e0, (by decide : 0 + 0 ≤ _), (by decide : 0 + 0 ≤ _)⟩)
    dsimp only [Pt.U, Pt.locs, Pt.cells, Pt.slots] at X122 l122 y122 z122 st122 hQ122
    subst l122 y122 z122
    obtain ⟨rfl, N122q, hq122⟩ := hQ122
    have N122 := Fr.app N0 N122q
    have pre123 : Go p e below T122 (mkF m 12 #[.val (.int p1), .val (.int (8 : Int32)), .unset, .unset] [(.ref w8)]) s₁ (entryFrame m #[(.int p1)] maxLocals) := fun t k => pre121 t (st122 t k)
    have e122 : T122.heap = h0 := hq122
    have pre124 : Go p e below T122 (mkF m 16 #[.val (.int p1), .val (.int (8 : Int32)), .val (.ref w8), .unset] [(.int (8 : Int32)), (.int (8 : Int32))]) s₁ (entryFrame m #[(.int p1)] maxLocals) := fun t k => pre123 t (by
        show Steps p.tables e below (T122.setTop (mkF m 12 #[.val (.int p1), .val (.int (8 : Int32)), .unset, .unset] [(.ref w8)])) t
        refine XS.astoreN X122.here hx rfl (hb hby at_12) rfl rfl (l' := #[.val (.int p1), .val (.int (8 : Int32)), .val (.ref w8), .unset]) rfl ?_
        show Steps p.tables e below (T122.setTop (mkF m 13 #[.val (.int p1), .val (.int (8 : Int32)), .val (.ref w8), .unset] [])) t
        refine XS.iloadN X122.here hx rfl (hb hby at_13) rfl ?_
        show Steps p.tables e below (T122.setTop (mkF m 14 #[.val (.int p1), .val (.int (8 : Int32)), .val (.ref w8), .unset] [(.int (8 : Int32))])) t
        refine XS.bipush X122.here hx rfl (hb hby at_14) ?_
        exact k)
    have pre125 : Go p e below T122 (mkF m 19 #[.val (.int p1), .val (.int (8 : Int32)), .val (.ref w8), .unset] []) s₁ (entryFrame m #[(.int p1)] maxLocals) := fun t k => pre124 t (XS.icmpNo X122.here hx rfl (hb hby at_16) rfl (teq (by decide : (8 : Int32) = (8 : Int32))).2 k)
    have pre126 : Go p e below T122 (mkF m 43 #[.val (.int p1), .val (.int (8 : Int32)), .val (.ref w8), .val (.int (0 : Int32))] [(.ref w8)]) s₁ (entryFrame m #[(.int p1)] maxLocals) := fun t k => pre125 t (by
        show Steps p.tables e below (T122.setTop (mkF m 19 #[.val (.int p1), .val (.int (8 : Int32)), .val (.ref w8), .unset] [])) t
        refine XS.iconst X122.here hx rfl (hb hby at_19) ?_
        show Steps p.tables e below (T122.setTop (mkF m 20 #[.val (.int p1), .val (.int (8 : Int32)), .val (.ref w8), .unset] [(.int (0 : Int32))])) t
        refine XS.istoreN X122.here hx rfl (hb hby at_20) rfl (l' := #[.val (.int p1), .val (.int (8 : Int32)), .val (.ref w8), .val (.int (0 : Int32))]) rfl ?_
        show Steps p.tables e below (T122.setTop (mkF m 21 #[.val (.int p1), .val (.int (8 : Int32)), .val (.ref w8), .val (.int (0 : Int32))] [])) t
        refine XS.goto X122.here hx rfl (pc0 := 21) (pc' := 42) rfl (hb hby at_21) (by decide) (by decide) ?_
        show Steps p.tables e below (T122.setTop (mkF m 42 #[.val (.int p1), .val (.int (8 : Int32)), .val (.ref w8), .val (.int (0 : Int32))] [])) t
        refine XS.aloadN X122.here hx rfl (hb hby at_42) rfl rfl ?_
        exact k)
    obtain ⟨cq127, kq127, q127a, q127b, q127c⟩ := isOf hZ e122 E8
    obtain ⟨_, _, ⟨T127, L127, k127, n127⟩, -, X127, ⟨Lc127, hQ127, l127, y127, z127⟩, st127⟩ := X122.virtualBack hx (y := (⟨"com/example/whisker/whisker/PrimitiveType", "size", "()I"⟩ : MethodName)) (z := (⟨"com/example/whisker/whisker/PrimitiveType", "size", "()I"⟩ : MethodName)) hown (mvT hZ (hw _ (List.mem_of_getElem? (i := 8) rfl))) (mvT hZ (hw _ (List.mem_of_getElem? (i := 9) rfl))) (notFace_of_selects (args := #[]) (mvT hZ (hw _ (List.mem_of_getElem? (i := 11) rfl)))) (mvT hZ (hw _ (List.mem_of_getElem? (i := 11) rfl))) (mvT hZ (hw _ (List.mem_of_getElem? (i := 10) rfl))) (by decide) (backOf (W := 0) (rmS l Z a0 hw [] w8 8 0 h0 n0 Z0 E8 F8 (by decide) (by decide)) hZ (hw _ (List.mem_of_getElem? (i := 12) rfl)) (hw _ (List.mem_of_getElem? (i := 6) rfl)) (by decide) (by decide)) q127a q127c (g := (mkF m 43 #[.val (.int p1), .val (.int (8 : Int32)), .val (.ref w8), .val (.int (0 : Int32))] [(.ref w8)])) rfl (by rw [hml]; rfl) (Steps.refl _) (argsL := []) (rest := []) (lenOf pdL_1 rfl) rfl (by show 2 * 0 + _ ≤ _; exact Nat.le_of_eq rfl) (hb hby at_43) (fun _ _ => ⟨rfl, e122, (by decide : 0 + 0 ≤ _), (by decide : 0 + 0 ≤ _)⟩)
    dsimp only [Pt.U, Pt.locs, Pt.cells, Pt.slots] at X127 l127 y127 z127 st127 hQ127
    subst l127 y127 z127
    obtain ⟨rfl, N127q, hq127⟩ := hQ127
    have N127 := Fr.app N122 N127q
    have pre128 : Go p e below T127 (mkF m 46 #[.val (.int p1), .val (.int (8 : Int32)), .val (.ref w8), .val (.int (0 : Int32))] [(.int (0 : Int32))]) s₁ (entryFrame m #[(.int p1)] maxLocals) := fun t k => pre126 t (st127.trans k)
    have e127 : T127.heap = h0 := hq127
    have pre129 : Go p e below T127 (mkF m 47 #[.val (.int p1), .val (.int (8 : Int32)), .val (.ref w8), .val (.int (0 : Int32))] [(.int (0 : Int32)), (.int (0 : Int32))]) s₁ (entryFrame m #[(.int p1)] maxLocals) := fun t k => pre128 t (by
        show Steps p.tables e below (T127.setTop (mkF m 46 #[.val (.int p1), .val (.int (8 : Int32)), .val (.ref w8), .val (.int (0 : Int32))] [(.int (0 : Int32))])) t
        refine XS.iloadN X127.here hx rfl (hb hby at_46) rfl ?_
        exact k)
    have pre130 : Go p e below T127 (mkF m 50 #[.val (.int p1), .val (.int (8 : Int32)), .val (.ref w8), .val (.int (0 : Int32))] []) s₁ (entryFrame m #[(.int p1)] maxLocals) := fun t k => pre129 t (XS.icmpNo X127.here hx rfl (hb hby at_47) rfl (teq (by decide : (0 : Int32) = (0 : Int32))).2 k)
    have pre131 : Go p e below T127 (mkF m 55 #[.val (.int p1), .val (.int (8 : Int32)), .val (.ref w8), .val (.int (0 : Int32))] [(.int (1 : Int32))]) s₁ (entryFrame m #[(.int p1)] maxLocals) := fun t k => pre130 t (by
        show Steps p.tables e below (T127.setTop (mkF m 50 #[.val (.int p1), .val (.int (8 : Int32)), .val (.ref w8), .val (.int (0 : Int32))] [])) t
        refine XS.iconst X127.here hx rfl (hb hby at_50) ?_
        show Steps p.tables e below (T127.setTop (mkF m 51 #[.val (.int p1), .val (.int (8 : Int32)), .val (.ref w8), .val (.int (0 : Int32))] [(.int (1 : Int32))])) t
        refine XS.goto X127.here hx rfl (pc0 := 51) (pc' := 55) rfl (hb hby at_51) (by decide) (by decide) ?_
        exact k)
    have hnr : Value.int (nar .boolean (1 : Int32)) = (.int (1 : Int32)) := by rfl
    obtain ⟨fs, hr, hrun, hended, hW, hsame⟩ := X127.leave (v := some (.int (1 : Int32))) (fun h => by rw [Bd.returns] at h; cases h)
    refine ⟨_, _, pre131 _ (retN X127 hx (t := .boolean) Bd.returns (by simp) (hb hby at_55) (hnr ▸ hr)), hrun, hended, _, _, rfl, ?_, ⟨_, rfl⟩, hW, hsame.mono (by decide) (by decide)⟩
    show QL Z p1 w0 w1 w2 w3 w4 w5 w6 w7 w8 h0 n0 _ T127.heap _
    rw [e127]
    exact ⟨rfl, N127⟩
set_option maxRecDepth 65536 in
set_option maxHeartbeats 40000000 in
theorem comes_1 {Post : Tables → Env → Array Value → State → Outcome → State → Prop} (hpost : ∀ tb e args s v u, (limb_1_1.after args s (.returned v) u = true ∧ limb_1_2.after args s (.returned v) u = true ∧ True) → FrameEnd s (.returned v) u (Jvm.fieldLocs frame_1_writes args s ++ Jvm.arrayLocs frame_1_arrays args s ++ Jvm.staticLocs frame_1_statics s) 0 0 → Post tb e args s (.returned v) u) :
    ArmFor flags0 classFile x code maxLocals ret World_1 tables_1 room_1 Calls_1 rest_1 Pre_1 Post := by
  intro l hfl _ _ p e ha hc hk s m args below hf hA hF happ hP
  obtain ⟨hcalls, hrest, hpre⟩ := hP
  obtain ⟨-, -, -, hnamed, -, -, -, hat⟩ := (Spec.applies_iff hf).mp happ
  obtain ⟨hg, hn⟩ := and_e (Cond.before_iff.mp (show (Jvm.Cond.and given_1 narrow_1).before args s = true from hpre))
  obtain ⟨hg0, hg1⟩ := and_e hg
  obtain ⟨w0, rfl⟩ : ∃ w0 : Value, args = #[w0] := by
    have hs : args.size = 1 := by simpa [Cond.value, given_1] using hg0
    obtain ⟨L⟩ := args
    match L, hs with
    | [w0], _ => exact ⟨w0, rfl⟩
  have hw := fun d (hd : d ∈ tables_1) => atoms_spec (ws := Jvm.Cond.code x code maxLocals ret :: tables_1) hat d (List.mem_cons_of_mem _ hd)
  have hfit : Fit s := fun {y c} hc i hi => by
    obtain ⟨ha, rfl⟩ := Array.getElem?_eq_some_iff.mp hc
    have q := List.all_eq_true.mp ((Array.all_eq_true_iff_forall_mem.mp hF) _ (Array.getElem_mem ha)) i (List.mem_range.mpr hi)
    simpa [Array.getElem?_eq_getElem hi] using q
  obtain ⟨x0, ei0⟩ := is_v hg1
  obtain rfl : w0 = (.int x0) := Option.some.inj ei0
  obtain ⟨nr0, nr1⟩ := and_e hn
  obtain ⟨nr2, nr3⟩ := and_e nr1
  obtain ⟨nr4, nr5⟩ := and_e nr3
  obtain ⟨nr6, nr7⟩ := and_e nr5
  obtain ⟨nr8, nr9⟩ := and_e nr7
  obtain ⟨nr10, nr11⟩ := and_e nr9
  obtain ⟨nr12, nr13⟩ := and_e nr11
  obtain ⟨nr14, nr15⟩ := and_e nr13
  obtain ⟨nr16, nr17⟩ := and_e nr15
  obtain ⟨nr18, nr19⟩ := and_e nr17
  obtain ⟨nr20, nr21⟩ := and_e nr19
  obtain ⟨nr22, nr23⟩ := and_e nr21
  obtain ⟨nr24, nr25⟩ := and_e nr23
  obtain ⟨nr26, nr27⟩ := and_e nr25
  obtain ⟨nr28, nr29⟩ := and_e nr27
  obtain ⟨nr30, nr31⟩ := and_e nr29
  obtain ⟨nr32, nr33⟩ := and_e nr31
  obtain ⟨a0, ev0⟩ := exa_v nr0
  have E0 : Exa s s.heap a0 "com/example/whisker/whisker/PrimitiveType" := Exa.start ev0 nr0
  have S0 : Sta s s.heap "com/example/whisker/whisker/PrimitiveType" "BOOLEAN" "Lcom/example/whisker/whisker/PrimitiveType;" (.ref a0) := Sta.start ev0 (Or.inr ⟨(hw _ (List.mem_of_getElem? (i := 6) rfl)), (hw _ (List.mem_of_getElem? (i := 7) rfl))⟩)
  have F0 := own_fld ev0 nr2
  obtain ⟨a1, ev1⟩ := exa_v nr12
  have E1 : Exa s s.heap a1 "com/example/whisker/whisker/PrimitiveType" := Exa.start ev1 nr12
  have S1 : Sta s s.heap "com/example/whisker/whisker/PrimitiveType" "BYTE" "Lcom/example/whisker/whisker/PrimitiveType;" (.ref a1) := Sta.start ev1 (Or.inr ⟨(hw _ (List.mem_of_getElem? (i := 6) rfl)), (hw _ (List.mem_of_getElem? (i := 27) rfl))⟩)
  have F1 := own_fld ev1 nr14
  obtain ⟨a2, ev2⟩ := exa_v nr8
  have E2 : Exa s s.heap a2 "com/example/whisker/whisker/PrimitiveType" := Exa.start ev2 nr8
  have S2 : Sta s s.heap "com/example/whisker/whisker/PrimitiveType" "SHORT" "Lcom/example/whisker/whisker/PrimitiveType;" (.ref a2) := Sta.start ev2 (Or.inr ⟨(hw _ (List.mem_of_getElem? (i := 6) rfl)), (hw _ (List.mem_of_getElem? (i := 25) rfl))⟩)
  have F2 := own_fld ev2 nr10
  obtain ⟨a3, ev3⟩ := exa_v nr4
  have E3 : Exa s s.heap a3 "com/example/whisker/whisker/PrimitiveType" := Exa.start ev3 nr4
  have S3 : Sta s s.heap "com/example/whisker/whisker/PrimitiveType" "CHAR" "Lcom/example/whisker/whisker/PrimitiveType;" (.ref a3) := Sta.start ev3 (Or.inr ⟨(hw _ (List.mem_of_getElem? (i := 6) rfl)), (hw _ (List.mem_of_getElem? (i := 23) rfl))⟩)
  have F3 := own_fld ev3 nr6
  obtain ⟨a4, ev4⟩ := exa_v nr20
  have E4 : Exa s s.heap a4 "com/example/whisker/whisker/PrimitiveType" := Exa.start ev4 nr20
  have S4 : Sta s s.heap "com/example/whisker/whisker/PrimitiveType" "INT" "Lcom/example/whisker/whisker/PrimitiveType;" (.ref a4) := Sta.start ev4 (Or.inr ⟨(hw _ (List.mem_of_getElem? (i := 6) rfl)), (hw _ (List.mem_of_getElem? (i := 31) rfl))⟩)
  have F4 := own_fld ev4 nr22
  obtain ⟨a5, ev5⟩ := exa_v nr32
  have E5 : Exa s s.heap a5 "com/example/whisker/whisker/PrimitiveType" := Exa.start ev5 nr32
  have S5 : Sta s s.heap "com/example/whisker/whisker/PrimitiveType" "LONG" "Lcom/example/whisker/whisker/PrimitiveType;" (.ref a5) := Sta.start ev5 (Or.inr ⟨(hw _ (List.mem_of_getElem? (i := 6) rfl)), (hw _ (List.mem_of_getElem? (i := 37) rfl))⟩)
  have F5 := own_fld ev5 nr33
  obtain ⟨a6, ev6⟩ := exa_v nr28
  have E6 : Exa s s.heap a6 "com/example/whisker/whisker/PrimitiveType" := Exa.start ev6 nr28
  have S6 : Sta s s.heap "com/example/whisker/whisker/PrimitiveType" "FLOAT" "Lcom/example/whisker/whisker/PrimitiveType;" (.ref a6) := Sta.start ev6 (Or.inr ⟨(hw _ (List.mem_of_getElem? (i := 6) rfl)), (hw _ (List.mem_of_getElem? (i := 35) rfl))⟩)
  have F6 := own_fld ev6 nr30
  obtain ⟨a7, ev7⟩ := exa_v nr16
  have E7 : Exa s s.heap a7 "com/example/whisker/whisker/PrimitiveType" := Exa.start ev7 nr16
  have S7 : Sta s s.heap "com/example/whisker/whisker/PrimitiveType" "DOUBLE" "Lcom/example/whisker/whisker/PrimitiveType;" (.ref a7) := Sta.start ev7 (Or.inr ⟨(hw _ (List.mem_of_getElem? (i := 6) rfl)), (hw _ (List.mem_of_getElem? (i := 29) rfl))⟩)
  have F7 := own_fld ev7 nr18
  obtain ⟨a8, ev8⟩ := exa_v nr24
  have E8 : Exa s s.heap a8 "com/example/whisker/whisker/PrimitiveType" := Exa.start ev8 nr24
  have S8 : Sta s s.heap "com/example/whisker/whisker/PrimitiveType" "VOID" "Lcom/example/whisker/whisker/PrimitiveType;" (.ref a8) := Sta.start ev8 (Or.inr ⟨(hw _ (List.mem_of_getElem? (i := 6) rfl)), (hw _ (List.mem_of_getElem? (i := 33) rfl))⟩)
  have F8 := own_fld ev8 nr26
  obtain ⟨n, o, h1, h2, h3, _, L, rfl, ⟨rfl, N⟩, hq⟩ := rmL l s _ hw tables_1 x0 a0 a1 a2 a3 a4 a5 a6 a7 a8 s.heap s.heap.size (Nat.le_refl _) S0 S1 S2 S3 S4 S5 S6 S7 S8 E0 E1 E2 E3 E4 E5 E6 E7 E8 F0 F1 F2 F3 F4 F5 F6 F7 F8 p e ha hc hk s m _ below hf ((Spec.applies_iff_loose hf).mp happ).1 ⟨rfl, State.Warmed39.refl s, rfl⟩ trivial
  refine ⟨n, _, h1, h2, h3, hpost _ _ _ _ _ _ ⟨Cond.after_iff.mpr rfl, Cond.after_iff.mpr (eq_i res_at (Term.int_eval (1)) rfl), trivial⟩ ⟨hq.1, hq.2.1, (hq.2.2.sift fun y hy => Or.inr (N y hy)).mono (by decide) (by decide)⟩⟩
theorem main_1_1 : Claimed_1_1 := comes_1 fun _ _ _ _ _ _ h hF => ⟨h.1, hF⟩
theorem main_1_2 : Claimed_1_2 := comes_1 fun _ _ _ _ _ _ h hF => ⟨h.2.1, hF⟩
end Jvm.Pilot.@@N@@
namespace Jvm.Pilot.@@N@@
open Jvm Jvm.ClassFile Sem Op Lib Jvm.Free Jvm.Stand Jvm.Pilot.@@N@@.Jvm.D
/-! MADE BY PROGRAM (witnessworld.py) out of the Statement's table words and the real class files: 11 classes; the members and pool entries that the words name. The judged class is class 1, her method 1. -/
namespace start1
open Jvm.ClassFile
def u (s : String) : CpInfo := .utf8 (stringToUtf16 s)
/-- a pool by its gaps: so many unusable entries, then the entry; so many at the end -/
def gap : Nat → List CpInfo → List CpInfo
  | 0, r => r
  | n + 1, r => .unusable :: gap n r
def poolList (es : List (Nat × CpInfo)) (last : Nat) : List CpInfo := es.foldr (fun e r => gap e.1 (e.2 :: r)) (gap last [])
def pool (es : List (Nat × CpInfo)) (last : Nat) : Array CpInfo := ⟨poolList es last⟩
def fileOf (pool : Array CpInfo) (this : Nat) (attrs : Array Attribute := #[]) (ms : Array MethodInfo := #[]) (fl : Nat := 33) (sup : Nat := 0) (ifs : Array Nat := #[]) (fds : Array FieldInfo := #[]) : ClassFile where
  minorVersion := 0
  majorVersion := 65
  constantPool := pool
  accessFlags := fl
  thisClass := this
  superClass := sup
  interfaces := ifs
  fields := fds
  methods := ms
  attributes := attrs
def plain (name : String) (sup : Option ClassId) : Class where
  name := name
  kind := .ordinary
  loader := none
  accessFlags := 33
  super := sup
  interfaces := #[]
  cf := none
  fields := #[]
  methods := #[]
  instanceTypes := #[]
  staticTypes := #[]
  resolved := #[]
  callSites := []
  init := .initialized
  statics := none
  mirror := none

def pool0 : Array CpInfo := pool [(5, u "<init>"), (0, u "()V"), (1, .class_ 10), (1, u "java/lang/Object")] 113

def k0m0 : Method := { name := "<init>", desc := "()V", sig := { parameters := [], returnType := none }, accessFlags := 1, code := none }
/-- java/lang/Object -/
def k0 : Class := { plain "java/lang/Object" none with
  accessFlags := 33
  interfaces := #[]
  cf := some (fileOf pool0 8 #[] #[{ accessFlags := 1, nameIndex := 5, descriptorIndex := 6, attributes := #[] }] 33 0 #[] #[])
  fields := #[]
  methods := #[k0m0]
  instanceTypes := #[]
  staticTypes := #[]
  resolved := Array.replicate 124 none
  statics := none }

def pool1 : Array CpInfo := pool [(2, .class_ 4), (1, u "java/lang/Object"), (0, u "<init>"), (0, u "()V"), (0, .integer 2147483647), (0, .methodref 9 10), (0, .class_ 11), (0, .nameAndType 12 13), (0, u "com/example/whisker/whisker/PrimitiveTypeSizePinLaw"), (0, u "pick"), (0, u "(I)Lcom/example/whisker/whisker/PrimitiveType;"), (0, .methodref 15 16), (0, .class_ 17), (0, .nameAndType 18 19), (0, u "com/example/whisker/whisker/PrimitiveType"), (0, u "size"), (0, u "()I"), (0, .fieldref 15 21), (0, .nameAndType 22 23), (0, u "BOOLEAN"), (0, u "Lcom/example/whisker/whisker/PrimitiveType;"), (0, .fieldref 15 25), (0, .nameAndType 26 23), (0, u "BYTE"), (0, .fieldref 15 28), (0, .nameAndType 29 23), (0, u "SHORT"), (0, .fieldref 15 31), (0, .nameAndType 32 23), (0, u "CHAR"), (0, .fieldref 15 34), (0, .nameAndType 35 23), (0, u "INT"), (0, .fieldref 15 37), (0, .nameAndType 38 23), (0, u "LONG"), (0, .fieldref 15 40), (0, .nameAndType 41 23), (0, u "FLOAT"), (0, .fieldref 15 43), (0, .nameAndType 44 23), (0, u "DOUBLE"), (0, .fieldref 15 46), (0, .nameAndType 47 23), (0, u "VOID"), (2, u "law"), (0, u "(I)Z")] 3

def k1m0 : Method := { name := "<init>", desc := "()V", sig := { parameters := [], returnType := none }, accessFlags := 1, code := none }
def k1c1 : Code := { maxStack := 2, maxLocals := 4, code := code, exceptionTable := #[], attributes := #[] }
def k1m1 : Method := { name := "law", desc := "(I)Z", sig := { parameters := [.int], returnType := some .boolean }, accessFlags := 9, code := some k1c1 }
def k1c2 : Code := { maxStack := 2, maxLocals := 1, code := method_3_code, exceptionTable := #[], attributes := #[] }
def k1m2 : Method := { name := "pick", desc := "(I)Lcom/example/whisker/whisker/PrimitiveType;", sig := { parameters := [.int], returnType := some (.object "com/example/whisker/whisker/PrimitiveType") }, accessFlags := 10, code := some k1c2 }
/-- com/example/whisker/whisker/PrimitiveTypeSizePinLaw -/
def k1 : Class := { plain "com/example/whisker/whisker/PrimitiveTypeSizePinLaw" (some 0) with
  accessFlags := 49
  interfaces := #[]
  cf := some (fileOf pool1 9 #[] #[{ accessFlags := 1, nameIndex := 5, descriptorIndex := 6, attributes := #[] }, { accessFlags := 9, nameIndex := 50, descriptorIndex := 51, attributes := #[] }, { accessFlags := 10, nameIndex := 12, descriptorIndex := 13, attributes := #[] }] 49 2 #[] #[])
  fields := #[]
  methods := #[k1m0, k1m1, k1m2]
  instanceTypes := #[]
  staticTypes := #[]
  resolved := Array.replicate 55 none
  statics := none }

def pool2 : Array CpInfo := pool [(1, .class_ 2), (0, u "java/lang/constant/Constable"), (0, .class_ 4), (0, u "java/lang/Object")] 6

/-- java/lang/constant/Constable -/
def k2 : Class := { plain "java/lang/constant/Constable" (some 0) with
  accessFlags := 1537
  interfaces := #[]
  cf := some (fileOf pool2 1 #[] #[] 1537 3 #[] #[])
  fields := #[]
  methods := #[]
  instanceTypes := #[]
  staticTypes := #[]
  resolved := Array.replicate 11 none
  statics := none }

def pool3 : Array CpInfo := pool [(1, .class_ 2), (0, u "java/lang/Comparable"), (0, .class_ 4), (0, u "java/lang/Object")] 7

/-- java/lang/Comparable -/
def k3 : Class := { plain "java/lang/Comparable" (some 0) with
  accessFlags := 1537
  interfaces := #[]
  cf := some (fileOf pool3 1 #[] #[] 1537 3 #[] #[])
  fields := #[]
  methods := #[]
  instanceTypes := #[]
  staticTypes := #[]
  resolved := Array.replicate 12 none
  statics := none }

def pool4 : Array CpInfo := pool [(1, .class_ 2), (0, u "java/io/Serializable"), (0, .class_ 4), (0, u "java/lang/Object")] 2

/-- java/io/Serializable -/
def k4 : Class := { plain "java/io/Serializable" (some 0) with
  accessFlags := 1537
  interfaces := #[]
  cf := some (fileOf pool4 1 #[] #[] 1537 3 #[] #[])
  fields := #[]
  methods := #[]
  instanceTypes := #[]
  staticTypes := #[]
  resolved := Array.replicate 7 none
  statics := none }

def pool5 : Array CpInfo := pool [(2, .class_ 4), (1, u "java/lang/Enum"), (0, u "name"), (0, u "Ljava/lang/String;"), (0, .fieldref 2 8), (0, .nameAndType 9 10), (0, u "ordinal"), (0, u "I"), (1, .class_ 14), (1, u "java/lang/Object"), (4, u "hash"), (86, .class_ 108), (1, u "java/lang/Enum$EnumDesc"), (2, .class_ 112), (0, u "java/lang/constant/Constable"), (0, .class_ 114), (0, u "java/lang/Comparable"), (0, .class_ 116), (0, u "java/io/Serializable"), (9, u "()I")] 77

def k5c0 : Code := { maxStack := 1, maxLocals := 1, code := jdk_37_method_2_code, exceptionTable := #[], attributes := #[] }
def k5m0 : Method := { name := "ordinal", desc := "()I", sig := { parameters := [], returnType := some .int }, accessFlags := 17, code := some k5c0 }
/-- java/lang/Enum -/
def k5 : Class := { plain "java/lang/Enum" (some 0) with
  accessFlags := 1057
  interfaces := #[2, 3, 4]
  cf := some (fileOf pool5 2 #[.nestMembers #[106]] #[{ accessFlags := 17, nameIndex := 9, descriptorIndex := 126, attributes := #[] }] 1057 12 #[111, 113, 115] #[{ accessFlags := 18, nameIndex := 5, descriptorIndex := 6, attributes := #[] }, { accessFlags := 18, nameIndex := 9, descriptorIndex := 10, attributes := #[] }, { accessFlags := 2, nameIndex := 19, descriptorIndex := 10, attributes := #[] }])
  fields := #[{ name := "name", type := (.object "java/lang/String"), accessFlags := 18, slot := 0, constantValue := 0 }, { name := "ordinal", type := .int, accessFlags := 18, slot := 1, constantValue := 0 }, { name := "hash", type := .int, accessFlags := 2, slot := 2, constantValue := 0 }]
  methods := #[k5m0]
  instanceTypes := #[(.object "java/lang/String"), .int, .int]
  staticTypes := #[]
  resolved := Array.replicate 204 none
  statics := none }

def pool6 : Array CpInfo := pool [(1, .class_ 2), (0, u "com/example/whisker/whisker/Type"), (0, .class_ 4), (0, u "java/lang/Object")] 27

/-- com/example/whisker/whisker/Type -/
def k6 : Class := { plain "com/example/whisker/whisker/Type" (some 0) with
  accessFlags := 1536
  interfaces := #[]
  cf := some (fileOf pool6 1 #[] #[] 1536 3 #[] #[])
  fields := #[]
  methods := #[]
  instanceTypes := #[]
  staticTypes := #[]
  resolved := Array.replicate 32 none
  statics := none }

def pool7 : Array CpInfo := pool [(1, .class_ 2), (0, u "com/example/whisker/whisker/PrimitiveType"), (2, u "BOOLEAN"), (0, u "Lcom/example/whisker/whisker/PrimitiveType;"), (2, u "BYTE"), (2, u "SHORT"), (2, u "CHAR"), (2, u "INT"), (2, u "LONG"), (2, u "FLOAT"), (2, u "DOUBLE"), (2, u "VOID"), (2, u "$VALUES"), (0, u "[Lcom/example/whisker/whisker/PrimitiveType;"), (6, .class_ 43), (1, u "java/lang/Enum"), (8, u "keyword"), (0, u "Ljava/lang/String;"), (2, u "descriptor"), (7, u "wrapper"), (0, u "Lcom/example/whisker/whisker/ClassType;"), (1, .class_ 69), (1, u "com/example/whisker/whisker/Type"), (20, .methodref 1 91), (0, .nameAndType 92 93), (0, u "ordinal"), (0, u "()I"), (85, u "size")] 6

def k7c0 : Code := { maxStack := 1, maxLocals := 1, code := prog_13_method_10_code, exceptionTable := #[], attributes := #[] }
def k7m0 : Method := { name := "size", desc := "()I", sig := { parameters := [], returnType := some .int }, accessFlags := 1, code := some k7c0 }
/-- com/example/whisker/whisker/PrimitiveType -/
def k7 : Class := { plain "com/example/whisker/whisker/PrimitiveType" (some 5) with
  accessFlags := 16432
  interfaces := #[6]
  cf := some (fileOf pool7 1 #[] #[{ accessFlags := 1, nameIndex := 179, descriptorIndex := 93, attributes := #[] }] 16432 41 #[67] #[{ accessFlags := 16409, nameIndex := 5, descriptorIndex := 6, attributes := #[] }, { accessFlags := 16409, nameIndex := 9, descriptorIndex := 6, attributes := #[] }, { accessFlags := 16409, nameIndex := 12, descriptorIndex := 6, attributes := #[] }, { accessFlags := 16409, nameIndex := 15, descriptorIndex := 6, attributes := #[] }, { accessFlags := 16409, nameIndex := 18, descriptorIndex := 6, attributes := #[] }, { accessFlags := 16409, nameIndex := 21, descriptorIndex := 6, attributes := #[] }, { accessFlags := 16409, nameIndex := 24, descriptorIndex := 6, attributes := #[] }, { accessFlags := 16409, nameIndex := 27, descriptorIndex := 6, attributes := #[] }, { accessFlags := 16409, nameIndex := 30, descriptorIndex := 6, attributes := #[] }, { accessFlags := 18, nameIndex := 52, descriptorIndex := 53, attributes := #[] }, { accessFlags := 18, nameIndex := 56, descriptorIndex := 53, attributes := #[] }, { accessFlags := 18, nameIndex := 64, descriptorIndex := 65, attributes := #[] }, { accessFlags := 4122, nameIndex := 33, descriptorIndex := 34, attributes := #[] }])
  fields := #[{ name := "BOOLEAN", type := (.object "com/example/whisker/whisker/PrimitiveType"), accessFlags := 16409, slot := 0, constantValue := 0 }, { name := "BYTE", type := (.object "com/example/whisker/whisker/PrimitiveType"), accessFlags := 16409, slot := 1, constantValue := 0 }, { name := "SHORT", type := (.object "com/example/whisker/whisker/PrimitiveType"), accessFlags := 16409, slot := 2, constantValue := 0 }, { name := "CHAR", type := (.object "com/example/whisker/whisker/PrimitiveType"), accessFlags := 16409, slot := 3, constantValue := 0 }, { name := "INT", type := (.object "com/example/whisker/whisker/PrimitiveType"), accessFlags := 16409, slot := 4, constantValue := 0 }, { name := "LONG", type := (.object "com/example/whisker/whisker/PrimitiveType"), accessFlags := 16409, slot := 5, constantValue := 0 }, { name := "FLOAT", type := (.object "com/example/whisker/whisker/PrimitiveType"), accessFlags := 16409, slot := 6, constantValue := 0 }, { name := "DOUBLE", type := (.object "com/example/whisker/whisker/PrimitiveType"), accessFlags := 16409, slot := 7, constantValue := 0 }, { name := "VOID", type := (.object "com/example/whisker/whisker/PrimitiveType"), accessFlags := 16409, slot := 8, constantValue := 0 }, { name := "keyword", type := (.object "java/lang/String"), accessFlags := 18, slot := 3, constantValue := 0 }, { name := "descriptor", type := (.object "java/lang/String"), accessFlags := 18, slot := 4, constantValue := 0 }, { name := "wrapper", type := (.object "com/example/whisker/whisker/ClassType"), accessFlags := 18, slot := 5, constantValue := 0 }, { name := "$VALUES", type := (.array (.object "com/example/whisker/whisker/PrimitiveType")), accessFlags := 4122, slot := 9, constantValue := 0 }]
  methods := #[k7m0]
  instanceTypes := #[(.object "java/lang/String"), .int, .int, (.object "java/lang/String"), (.object "java/lang/String"), (.object "com/example/whisker/whisker/ClassType")]
  staticTypes := #[(.object "com/example/whisker/whisker/PrimitiveType"), (.object "com/example/whisker/whisker/PrimitiveType"), (.object "com/example/whisker/whisker/PrimitiveType"), (.object "com/example/whisker/whisker/PrimitiveType"), (.object "com/example/whisker/whisker/PrimitiveType"), (.object "com/example/whisker/whisker/PrimitiveType"), (.object "com/example/whisker/whisker/PrimitiveType"), (.object "com/example/whisker/whisker/PrimitiveType"), (.object "com/example/whisker/whisker/PrimitiveType"), (.array (.object "com/example/whisker/whisker/PrimitiveType"))]
  resolved := Array.replicate 186 none
  statics := some 0 }

def pool8 : Array CpInfo := pool [(1, u "java/lang/Cloneable"), (0, .class_ 1), (0, u "java/lang/Object"), (0, .class_ 3)] 3

/-- java/lang/Cloneable -/
def k8 : Class := { plain "java/lang/Cloneable" (some 0) with
  accessFlags := 1537
  interfaces := #[]
  cf := some (fileOf pool8 2 #[] #[] 1537 4 #[] #[])
  fields := #[]
  methods := #[]
  instanceTypes := #[]
  staticTypes := #[]
  resolved := Array.replicate 8 none
  statics := none }

/-- the primitive byte -/
def k9 : Class := { plain "byte" none with kind := .primitive 'B', accessFlags := 0x411 }
/-- [B -/
def k10 : Class := { plain "[B" (some 0) with kind := .array 9 .byte, interfaces := #[8, 4], accessFlags := 1041 }

def heap : Heap := #[{ cls := 7, slots := #[.ref 1, .ref 2, .ref 3, .ref 4, .ref 5, .ref 6, .ref 7, .ref 8, .ref 9, .null], vm := .statics 7 },
  { cls := 7, slots := #[.null, .int 0, .int 0, .null, .null, .null], vm := .none },
  { cls := 7, slots := #[.null, .int 1, .int 0, .null, .null, .null], vm := .none },
  { cls := 7, slots := #[.null, .int 2, .int 0, .null, .null, .null], vm := .none },
  { cls := 7, slots := #[.null, .int 3, .int 0, .null, .null, .null], vm := .none },
  { cls := 7, slots := #[.null, .int 4, .int 0, .null, .null, .null], vm := .none },
  { cls := 7, slots := #[.null, .int 5, .int 0, .null, .null, .null], vm := .none },
  { cls := 7, slots := #[.null, .int 6, .int 0, .null, .null, .null], vm := .none },
  { cls := 7, slots := #[.null, .int 7, .int 0, .null, .null, .null], vm := .none },
  { cls := 7, slots := #[.null, .int 8, .int 0, .null, .null, .null], vm := .none }]
def classes : Array Class := #[k0, k1, k2, k3, k4, k5, k6, k7, k8, k9, k10]
def interned : List (Array UInt16 × Addr) := []
def slotsUsed : Nat := 64
def theMethod : MethodId := ⟨1, 1⟩
def args0 : Array Value := #[.int 5]
def aboutOver (below : List Frame) : State where
  vm := { classes := classes, interned := interned.toArray }
  heap := heap
  slotsUsed := slotsUsed
  threads := #[{ frames := .invoking theMethod args0 :: below }]
def below0 : List Frame := [.native { method := ⟨0, 0⟩, args := #[] }]
def about1 : State := aboutOver below0
def p0 : Program := .bare "" "" ""
def e0 : Env := launch0.env 0 0 0
theorem w_frames : about1.frames = Frame.invoking theMethod args0 :: below0 := rfl
set_option maxRecDepth 65536 in
theorem w_args : argsFit about1.vm theMethod args0 = true := by decide +kernel
set_option maxRecDepth 65536 in
theorem w_heap : heapFits about1 = true := by decide +kernel
set_option maxRecDepth 65536 in
theorem w_runnable : about1.curStatus? = some .runnable := by decide +kernel
set_option maxRecDepth 65536 in
theorem w_alone : about1.alone = true := by decide +kernel
set_option maxRecDepth 65536 in
theorem w_named : about1.methodNamed? x = some theMethod := by decide +kernel
set_option maxRecDepth 65536 in
theorem w_hears : about1.hears theMethod below0 = true := by decide +kernel
set_option maxRecDepth 65536 in
theorem w_ripe : about1.ripe theMethod args0 below0 = true := by decide +kernel
theorem w_running : about1.status = .running := rfl
set_option maxRecDepth 65536 in
theorem w_room : about1.hasRoom e0.platform room_1 = true :=
  launch0.hasRoom_least _ room_1 (by decide +kernel) (by decide +kernel) (by decide +kernel) (by decide +kernel) (by decide +kernel) (by decide +kernel)
theorem allAtoms_all (ts : List Jvm.Cond) (a : Array Jvm.Value) (st : Jvm.State) : (allAtoms ts).before a st = ts.all (fun c => c.before a st) := by
  induction ts with
  | nil => rfl
  | cons c t ih =>
    show (Jvm.Cond.and c (allAtoms t)).before a st = _
    rw [Jvm.Cond.before_and, ih, List.all_cons]
def words1 : List Jvm.Cond := Jvm.Cond.code x code maxLocals ret :: tables_1
/-- a 'code' word, met by the world's own term for the bytes: nothing is compared byte by byte -/
theorem code_word {y : MethodName} {bytes : ByteArray} {mx : Nat} {rt : Option FieldType} {a : Array Value} {s : State} {m : MethodId} {meth : Method} {c : Code} (h1 : s.methodNamed? y = some m) (h2 : s.vm.method? m = some meth) (h3 : meth.code = some c) (h4 : c.code = bytes)
    (h5 : (c.maxLocals == mx && c.exceptionTable.isEmpty && decide (c.maxStack ≤ mostOperands) && decide (meth.sig.returnType = rt) && !meth.locks && decide (parseMethodDescriptor y.desc = some meth.sig)) = true) : (Jvm.Cond.code y bytes mx rt).before a s = true := by
  simp only [Bool.and_eq_true, beq_iff_eq, Bool.not_eq_true', decide_eq_true_eq] at h5
  obtain ⟨⟨⟨⟨⟨g1, g2⟩, g3⟩, g4⟩, g5⟩, g6⟩ := h5
  simp [Cond.before, Cond.holds, Cond.value, h1, h2, h3, h4, g1, g2, g3, g4, g5, g6]
def isCode : Jvm.Cond → Bool
  | .code _ _ _ _ => true
  | _ => false
theorem all_split {L : List Jvm.Cond} {P : Jvm.Cond → Bool} (h1 : L.all (fun c => isCode c || P c) = true) (h2 : ∀ c ∈ L.filter isCode, P c = true) : L.all P = true := by
  refine List.all_eq_true.mpr fun c hc => ?_
  have h := List.all_eq_true.mp h1 c hc
  rcases Bool.eq_false_or_eq_true (isCode c) with hi | hi
  · exact h2 c (List.mem_filter.mpr ⟨hc, hi⟩)
  · simpa [hi] using h
set_option maxRecDepth 65536 in
theorem w_c0 : (Jvm.Cond.code x code maxLocals ret).before args0 about1 = true := code_word (m := ⟨1, 1⟩) (meth := k1m1) (c := k1c1) (by decide +kernel) rfl rfl rfl (by decide +kernel)
set_option maxRecDepth 65536 in
theorem w_c1 : (Jvm.Cond.code ({ cls := "com/example/whisker/whisker/PrimitiveTypeSizePinLaw", name := "pick", desc := "(I)Lcom/example/whisker/whisker/PrimitiveType;" } : Jvm.MethodName) method_3_code (1 : Nat) (Option.some (Jvm.ClassFile.FieldType.object "com/example/whisker/whisker/PrimitiveType"))).before args0 about1 = true := code_word (m := ⟨1, 2⟩) (meth := k1m2) (c := k1c2) (by decide +kernel) rfl rfl rfl (by decide +kernel)
set_option maxRecDepth 65536 in
theorem w_c2 : (Jvm.Cond.code ({ cls := "com/example/whisker/whisker/PrimitiveType", name := "size", desc := "()I" } : Jvm.MethodName) prog_13_method_10_code (1 : Nat) (Option.some Jvm.ClassFile.FieldType.int)).before args0 about1 = true := code_word (m := ⟨7, 0⟩) (meth := k7m0) (c := k7c0) (by decide +kernel) rfl rfl rfl (by decide +kernel)
set_option maxRecDepth 65536 in
theorem w_c3 : (Jvm.Cond.code ({ cls := "java/lang/Enum", name := "ordinal", desc := "()I" } : Jvm.MethodName) jdk_37_method_2_code (1 : Nat) (Option.some Jvm.ClassFile.FieldType.int)).before args0 about1 = true := code_word (m := ⟨5, 0⟩) (meth := k5m0) (c := k5c0) (by decide +kernel) rfl rfl rfl (by decide +kernel)
def codes1 : List Jvm.Cond := [Jvm.Cond.code x code maxLocals ret, Jvm.Cond.code ({ cls := "com/example/whisker/whisker/PrimitiveTypeSizePinLaw", name := "pick", desc := "(I)Lcom/example/whisker/whisker/PrimitiveType;" } : Jvm.MethodName) method_3_code (1 : Nat) (Option.some (Jvm.ClassFile.FieldType.object "com/example/whisker/whisker/PrimitiveType")), Jvm.Cond.code ({ cls := "com/example/whisker/whisker/PrimitiveType", name := "size", desc := "()I" } : Jvm.MethodName) prog_13_method_10_code (1 : Nat) (Option.some Jvm.ClassFile.FieldType.int), Jvm.Cond.code ({ cls := "java/lang/Enum", name := "ordinal", desc := "()I" } : Jvm.MethodName) jdk_37_method_2_code (1 : Nat) (Option.some Jvm.ClassFile.FieldType.int)]
set_option maxRecDepth 65536 in
theorem codes_eq : words1.filter isCode = codes1 := rfl
theorem w_codes : ∀ c ∈ words1.filter isCode, c.before args0 about1 = true := by
  rw [codes_eq]
  intro c hc
  simp only [codes1, List.mem_cons, List.not_mem_nil, or_false] at hc
  rcases hc with rfl | rfl | rfl | rfl
  · exact w_c0
  · exact w_c1
  · exact w_c2
  · exact w_c3
set_option maxRecDepth 65536 in
theorem w_t1 : (words1.take 24).all (fun c => isCode c || c.before args0 about1) = true := by decide +kernel
set_option maxRecDepth 65536 in
theorem w_t2 : (words1.drop 24).all (fun c => isCode c || c.before args0 about1) = true := by decide +kernel
theorem w_tables : (allAtoms (Jvm.Cond.code x code maxLocals ret :: tables_1)).before args0 about1 = true := by
  rw [allAtoms_all]
  show words1.all (fun c => c.before args0 about1) = true
  refine all_split ?_ w_codes
  rw [← List.take_append_drop 24 words1, List.all_append, w_t1, w_t2]
  rfl
set_option maxRecDepth 65536 in
theorem w_case : (Jvm.Cond.and given_1 narrow_1).before args0 about1 = true := by decide +kernel
theorem w_applies : (headSpec (Jvm.Cond.code x code maxLocals ret :: tables_1) room_1).applies x e0.platform about1 = true :=
  (Spec.applies_iff w_frames).mpr ⟨w_running, w_runnable, w_alone, w_named, w_hears, w_ripe, w_room, w_tables⟩
theorem atStart : AtStart classFile x code maxLocals ret World_1 tables_1 room_1 Calls_1 rest_1 Pre_1 launch0 p0 e0 about1 theMethod args0 below0 :=
  ⟨lists_1, trivial, launch0.admits_env _ _ _, launch0.least_env, fairChoices_fair.cas, fairChoices_fair.clock, w_frames, w_args, w_heap, w_applies, trivial, trivial, w_case⟩
end start1
theorem witness_1 : WitnessClaimed_1 := ⟨start1.p0, start1.e0, start1.about1, start1.theMethod, start1.args0, start1.below0, start1.atStart⟩
end Jvm.Pilot.@@N@@
