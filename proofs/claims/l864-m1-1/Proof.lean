import JvmDerived
import JvmDerived.Pilot.@@N@@Statement
import JvmDerived.Pilot.@@N@@Code
set_option linter.unusedVariables false
set_option linter.unusedSimpArgs false

namespace Jvm.Pilot.@@N@@
open Jvm Jvm.ClassFile Sem Op Lib Jvm.Free Jvm.Stand Jvm.LawKit Jvm.RoadKit Bundle Jvm.Pilot.@@N@@.Jvm.D
/-- from the frame g' at S' the run comes to the frame g at S -/
abbrev Go (p : Program) (e : Env) (below : List Frame) (S : State) (g : JFrame) (S' : State) (g' : JFrame) : Prop := ∀ t, Steps p.tables e below (S.setTop g) t → Steps p.tables e below (S'.setTop g') t

theorem own_fld {args : Array Value} {s : State} {t : Term} {x : Addr} {C n d : String} {k : Int32} (ht : t.eval args s none [] s = some (.ref x)) (h : (Jvm.Cond.eq (.field t C n d) (.int k)).value args s none s [] = some true) : Fld s s.heap x C n d (.int k) := by
  obtain ⟨y, z, h1, h2, h3, -⟩ := cmp_v (Or.inl h)
  have h2' : z = .int k := by simpa [Term.eval] using h2.symm
  subst h2'
  obtain ⟨u, rfl⟩ : ∃ u, y = .int u := by cases y <;> simp [Kin, Value.isRef] at h3 ⊢
  have h4 : u = k := by simpa [Jvm.Cond.value, h1, h2] using h
  subst h4
  exact Fld.start ((fld_at ht).symm.trans h1)

theorem own_m9 (x : Int32) : (x &&& 2147483647) % 9 = 0 ∨ (x &&& 2147483647) % 9 = 1 ∨ (x &&& 2147483647) % 9 = 2 ∨ (x &&& 2147483647) % 9 = 3 ∨ (x &&& 2147483647) % 9 = 4 ∨ (x &&& 2147483647) % 9 = 5 ∨ (x &&& 2147483647) % 9 = 6 ∨ (x &&& 2147483647) % 9 = 7 ∨ (x &&& 2147483647) % 9 = 8 := by
  have h1 := c_mask x 2147483647 31 (by decide) (by decide)
  have h2 := (c_irem (x &&& 2147483647) 9 9 (by decide)).1 (by omega)
  generalize (x &&& 2147483647) % 9 = k at h2 ⊢
  have e0 : (0 : Int32).toInt = 0 := by decide
  have e1 : (1 : Int32).toInt = 1 := by decide
  have e2 : (2 : Int32).toInt = 2 := by decide
  have e3 : (3 : Int32).toInt = 3 := by decide
  have e4 : (4 : Int32).toInt = 4 := by decide
  have e5 : (5 : Int32).toInt = 5 := by decide
  have e6 : (6 : Int32).toInt = 6 := by decide
  have e7 : (7 : Int32).toInt = 7 := by decide
  have e8 : (8 : Int32).toInt = 8 := by decide
  simp only [← Int32.toInt_inj, e0, e1, e2, e3, e4, e5, e6, e7, e8]
  omega

def pickF (p : Int32) (w0 w1 w2 w3 w4 w5 w6 w7 w8 : Addr) : Addr := if p = 0 then w0 else if p = 1 then w1 else if p = 2 then w2 else if p = 3 then w3 else if p = 4 then w4 else if p = 5 then w5 else if p = 6 then w6 else if p = 7 then w7 else w8
theorem dP_0 : decode method_2_code 0 = .ok (.iload_n 0, 1) := by decide +kernel
theorem dP_1 : decode method_2_code 1 = .ok (.ifCond .ne 7, 3) := by decide +kernel
theorem dP_4 : decode method_2_code 4 = .ok (.getstatic 7, 3) := by decide +kernel
theorem dP_7 : decode method_2_code 7 = .ok (.areturn, 1) := by decide +kernel
theorem dP_8 : decode method_2_code 8 = .ok (.iload_n 0, 1) := by decide +kernel
theorem dP_9 : decode method_2_code 9 = .ok (.iconst 1, 1) := by decide +kernel
theorem dP_10 : decode method_2_code 10 = .ok (.if_icmp .ne 7, 3) := by decide +kernel
theorem dP_13 : decode method_2_code 13 = .ok (.getstatic 13, 3) := by decide +kernel
theorem dP_16 : decode method_2_code 16 = .ok (.areturn, 1) := by decide +kernel
theorem dP_17 : decode method_2_code 17 = .ok (.iload_n 0, 1) := by decide +kernel
theorem dP_18 : decode method_2_code 18 = .ok (.iconst 2, 1) := by decide +kernel
theorem dP_19 : decode method_2_code 19 = .ok (.if_icmp .ne 7, 3) := by decide +kernel
theorem dP_22 : decode method_2_code 22 = .ok (.getstatic 16, 3) := by decide +kernel
theorem dP_25 : decode method_2_code 25 = .ok (.areturn, 1) := by decide +kernel
theorem dP_26 : decode method_2_code 26 = .ok (.iload_n 0, 1) := by decide +kernel
theorem dP_27 : decode method_2_code 27 = .ok (.iconst 3, 1) := by decide +kernel
theorem dP_28 : decode method_2_code 28 = .ok (.if_icmp .ne 7, 3) := by decide +kernel
theorem dP_31 : decode method_2_code 31 = .ok (.getstatic 19, 3) := by decide +kernel
theorem dP_34 : decode method_2_code 34 = .ok (.areturn, 1) := by decide +kernel
theorem dP_35 : decode method_2_code 35 = .ok (.iload_n 0, 1) := by decide +kernel
theorem dP_36 : decode method_2_code 36 = .ok (.iconst 4, 1) := by decide +kernel
theorem dP_37 : decode method_2_code 37 = .ok (.if_icmp .ne 7, 3) := by decide +kernel
theorem dP_40 : decode method_2_code 40 = .ok (.getstatic 22, 3) := by decide +kernel
theorem dP_43 : decode method_2_code 43 = .ok (.areturn, 1) := by decide +kernel
theorem dP_44 : decode method_2_code 44 = .ok (.iload_n 0, 1) := by decide +kernel
theorem dP_45 : decode method_2_code 45 = .ok (.iconst 5, 1) := by decide +kernel
theorem dP_46 : decode method_2_code 46 = .ok (.if_icmp .ne 7, 3) := by decide +kernel
theorem dP_49 : decode method_2_code 49 = .ok (.getstatic 25, 3) := by decide +kernel
theorem dP_52 : decode method_2_code 52 = .ok (.areturn, 1) := by decide +kernel
theorem dP_53 : decode method_2_code 53 = .ok (.iload_n 0, 1) := by decide +kernel
theorem dP_54 : decode method_2_code 54 = .ok (.bipush 6, 2) := by decide +kernel
theorem dP_56 : decode method_2_code 56 = .ok (.if_icmp .ne 7, 3) := by decide +kernel
theorem dP_59 : decode method_2_code 59 = .ok (.getstatic 28, 3) := by decide +kernel
theorem dP_62 : decode method_2_code 62 = .ok (.areturn, 1) := by decide +kernel
theorem dP_63 : decode method_2_code 63 = .ok (.iload_n 0, 1) := by decide +kernel
theorem dP_64 : decode method_2_code 64 = .ok (.bipush 7, 2) := by decide +kernel
theorem dP_66 : decode method_2_code 66 = .ok (.if_icmp .ne 7, 3) := by decide +kernel
theorem dP_69 : decode method_2_code 69 = .ok (.getstatic 31, 3) := by decide +kernel
theorem dP_72 : decode method_2_code 72 = .ok (.areturn, 1) := by decide +kernel
theorem dP_73 : decode method_2_code 73 = .ok (.getstatic 34, 3) := by decide +kernel
theorem dP_76 : decode method_2_code 76 = .ok (.areturn, 1) := by decide +kernel
theorem pnP : plainName "com/example/whisker/whisker/PrimitiveTypeWidensToPinLaw" = true := by first | (simp [plainName, overriddenIn]; done) | decide +kernel
theorem efP (m : MethodId) (p1 : Int32) : entryFrame m #[(.int p1)] 1 = mkF m 0 #[.val (.int p1)] [] := by first | (simp [entryFrame, mkF, argsToLocals, Value.category]; done) | rfl
def QP (Z : State) (p1 : Int32) (w0 : Addr) (w1 : Addr) (w2 : Addr) (w3 : Addr) (w4 : Addr) (w5 : Addr) (w6 : Addr) (w7 : Addr) (w8 : Addr) (r : Addr) (h0 : Heap) (n0 : Nat) (v : Option Value) (h : Heap) (L : List Loc) : Prop := v = some (.ref r) ∧ Fr n0 L ∧ h = h0
set_option maxRecDepth 65536 in
set_option maxHeartbeats 40000000 in
theorem rmP (l : Launch) (Z : State) (a0 : Array Value) (hw : ∀ d ∈ tables_1, d.before a0 Z = true) (ws : List Jvm.Cond) (p1 : Int32) (w0 : Addr) (w1 : Addr) (w2 : Addr) (w3 : Addr) (w4 : Addr) (w5 : Addr) (w6 : Addr) (w7 : Addr) (w8 : Addr) (r : Addr) (h0 : Heap) (n0 : Nat) (Z0 : n0 ≤ h0.size) (S0 : Sta Z h0 "com/example/whisker/whisker/PrimitiveType" "BOOLEAN" "Lcom/example/whisker/whisker/PrimitiveType;" (.ref w0)) (S1 : Sta Z h0 "com/example/whisker/whisker/PrimitiveType" "BYTE" "Lcom/example/whisker/whisker/PrimitiveType;" (.ref w1)) (S2 : Sta Z h0 "com/example/whisker/whisker/PrimitiveType" "SHORT" "Lcom/example/whisker/whisker/PrimitiveType;" (.ref w2)) (S3 : Sta Z h0 "com/example/whisker/whisker/PrimitiveType" "CHAR" "Lcom/example/whisker/whisker/PrimitiveType;" (.ref w3)) (S4 : Sta Z h0 "com/example/whisker/whisker/PrimitiveType" "INT" "Lcom/example/whisker/whisker/PrimitiveType;" (.ref w4)) (S5 : Sta Z h0 "com/example/whisker/whisker/PrimitiveType" "LONG" "Lcom/example/whisker/whisker/PrimitiveType;" (.ref w5)) (S6 : Sta Z h0 "com/example/whisker/whisker/PrimitiveType" "FLOAT" "Lcom/example/whisker/whisker/PrimitiveType;" (.ref w6)) (S7 : Sta Z h0 "com/example/whisker/whisker/PrimitiveType" "DOUBLE" "Lcom/example/whisker/whisker/PrimitiveType;" (.ref w7)) (S8 : Sta Z h0 "com/example/whisker/whisker/PrimitiveType" "VOID" "Lcom/example/whisker/whisker/PrimitiveType;" (.ref w8)) (hR : pickF p1 w0 w1 w2 w3 w4 w5 w6 w7 w8 = r) :
    MetFree l (⟨"com/example/whisker/whisker/PrimitiveTypeWidensToPinLaw", "pick", "(I)Lcom/example/whisker/whisker/PrimitiveType;"⟩ : MethodName) (head1 (Jvm.Cond.code (⟨"com/example/whisker/whisker/PrimitiveTypeWidensToPinLaw", "pick", "(I)Lcom/example/whisker/whisker/PrimitiveType;"⟩ : MethodName) method_2_code 1 (some (.object "com/example/whisker/whisker/PrimitiveType")) :: ws) ({ frames := 0, cells := 0, slots := 0, locals := 0 } : Room)) (fun a U => a = #[(.int p1)] ∧ Z.Warmed39 U.vm ∧ U.heap = h0) (fun _ _ _ _ _ => True) (fun _ U o U' => ∃ v L, o = .returned v ∧ QP Z p1 w0 w1 w2 w3 w4 w5 w6 w7 w8 r h0 n0 v U'.heap L ∧ FrameEnd U o U' L ({ frames := 0, cells := 0, slots := 0, locals := 0 } : Room).cells ({ frames := 0, cells := 0, slots := 0, locals := 0 } : Room).slots) := by
  refine MetFree.of_bodySF (plainFor_of_name pnP) hisR ?_
  intro p e s m args below meth c s₁ Bd hml0 hP hK
  obtain ⟨rfl, hZ, hh⟩ := hP
  have hx := Bd.exec
  have hby := Bd.bytes
  have hml : c.maxLocals = 1 := hml0
  have hown : s.vm.findClass "com/example/whisker/whisker/PrimitiveTypeWidensToPinLaw" = some m.cls := findClass_of_methodNamed Bd.named
  have hnm := (name_of_methodNamed Bd.named Bd.method).1
  have X0 : Stand p l e ({ frames := 0, cells := 0, slots := 0, locals := 0 } : Room) s m #[(.int p1)] below meth c s₁ [] 0 0 := Stand.of_body Bd
  have e0 : s₁.heap = h0 := by rw [← hh, Bd.state]; rfl
  have N0 := Fr.nil n0
  have pre0 : Go p e below s₁ (mkF m 0 #[.val (.int p1)] []) s₁ (entryFrame m #[(.int p1)] 1) := fun t k => castTop (efP m p1) k
  have pre1 : Go p e below s₁ (mkF m 1 #[.val (.int p1)] [(.int p1)]) s₁ (entryFrame m #[(.int p1)] 1) := fun t k => pre0 t (by
      show Steps p.tables e below (s₁.setTop (mkF m 0 #[.val (.int p1)] [])) t
      refine XS.iloadN X0.here hx rfl (hb hby dP_0) rfl ?_
      exact k)
  by_cases hc1 : p1 = (0 : Int32)
  · have pre2 : Go p e below s₁ (mkF m 4 #[.val (.int p1)] []) s₁ (entryFrame m #[(.int p1)] 1) := fun t k => pre1 t (XS.ifNo X0.here hx rfl (hb hby dP_1) rfl ((if0 _ _).trans (teq hc1).2) k)
    obtain ⟨T3, X3, e3, st3⟩ := getS2 X0 hx hZ hown (host := "") (Or.inl (hw _ (List.mem_of_getElem? (i := 5) rfl))) Via.refl e0 S0 (g := (mkF m 4 #[.val (.int p1)] [])) rfl (hb hby dP_4)
    have pre4 : Go p e below T3 (mkF m 7 #[.val (.int p1)] [(.ref w0)]) s₁ (entryFrame m #[(.int p1)] 1) := fun t k => pre2 t (st3 t k)
    obtain ⟨fs, hr, hrun, hended, hW, hsame⟩ := X3.leave (v := some (.ref w0)) (fun h => by rw [Bd.returns] at h; cases h)
    refine ⟨_, _, pre4 _ (retOut X3 hx Bd.returns rfl (Or.inr (Or.inr (Or.inr (Or.inr ⟨rfl, rfl, rfl⟩)))) (hb hby dP_7) hr), hrun, hended, _, _, rfl, ?_, ⟨_, rfl⟩, hW, hsame.mono (by decide) (by decide)⟩
    show QP Z p1 w0 w1 w2 w3 w4 w5 w6 w7 w8 r h0 n0 _ T3.heap _
    rw [e3]
    exact ⟨by rw [← hR]; simp [pickF, hc1], N0, rfl⟩
  · have pre5 : Go p e below s₁ (mkF m 8 #[.val (.int p1)] []) s₁ (entryFrame m #[(.int p1)] 1) := fun t k => pre1 t (XS.ifYes X0.here hx rfl (pc0 := 1) (pc' := 8) rfl (hb hby dP_1) rfl ((if0 _ _).trans (feq hc1).2) (by decide) (by decide) k)
    have pre6 : Go p e below s₁ (mkF m 10 #[.val (.int p1)] [(.int (1 : Int32)), (.int p1)]) s₁ (entryFrame m #[(.int p1)] 1) := fun t k => pre5 t (by
        show Steps p.tables e below (s₁.setTop (mkF m 8 #[.val (.int p1)] [])) t
        refine XS.iloadN X0.here hx rfl (hb hby dP_8) rfl ?_
        show Steps p.tables e below (s₁.setTop (mkF m 9 #[.val (.int p1)] [(.int p1)])) t
        refine XS.iconst X0.here hx rfl (hb hby dP_9) ?_
        exact k)
    by_cases hc10 : p1 = (1 : Int32)
    · have pre7 : Go p e below s₁ (mkF m 13 #[.val (.int p1)] []) s₁ (entryFrame m #[(.int p1)] 1) := fun t k => pre6 t (XS.icmpNo X0.here hx rfl (hb hby dP_10) rfl (teq hc10).2 k)
      obtain ⟨T8, X8, e8, st8⟩ := getS2 X0 hx hZ hown (host := "") (Or.inl (hw _ (List.mem_of_getElem? (i := 29) rfl))) Via.refl e0 S1 (g := (mkF m 13 #[.val (.int p1)] [])) rfl (hb hby dP_13)
      have pre9 : Go p e below T8 (mkF m 16 #[.val (.int p1)] [(.ref w1)]) s₁ (entryFrame m #[(.int p1)] 1) := fun t k => pre7 t (st8 t k)
      obtain ⟨fs, hr, hrun, hended, hW, hsame⟩ := X8.leave (v := some (.ref w1)) (fun h => by rw [Bd.returns] at h; cases h)
      refine ⟨_, _, pre9 _ (retOut X8 hx Bd.returns rfl (Or.inr (Or.inr (Or.inr (Or.inr ⟨rfl, rfl, rfl⟩)))) (hb hby dP_16) hr), hrun, hended, _, _, rfl, ?_, ⟨_, rfl⟩, hW, hsame.mono (by decide) (by decide)⟩
      show QP Z p1 w0 w1 w2 w3 w4 w5 w6 w7 w8 r h0 n0 _ T8.heap _
      rw [e8]
      exact ⟨by rw [← hR]; simp [pickF, hc1, hc10], N0, rfl⟩
    · have pre10 : Go p e below s₁ (mkF m 17 #[.val (.int p1)] []) s₁ (entryFrame m #[(.int p1)] 1) := fun t k => pre6 t (XS.icmpYes X0.here hx rfl (pc0 := 10) (pc' := 17) rfl (hb hby dP_10) rfl (feq hc10).2 (by decide) (by decide) k)
      have pre11 : Go p e below s₁ (mkF m 19 #[.val (.int p1)] [(.int (2 : Int32)), (.int p1)]) s₁ (entryFrame m #[(.int p1)] 1) := fun t k => pre10 t (by
          show Steps p.tables e below (s₁.setTop (mkF m 17 #[.val (.int p1)] [])) t
          refine XS.iloadN X0.here hx rfl (hb hby dP_17) rfl ?_
          show Steps p.tables e below (s₁.setTop (mkF m 18 #[.val (.int p1)] [(.int p1)])) t
          refine XS.iconst X0.here hx rfl (hb hby dP_18) ?_
          exact k)
      by_cases hc19 : p1 = (2 : Int32)
      · have pre12 : Go p e below s₁ (mkF m 22 #[.val (.int p1)] []) s₁ (entryFrame m #[(.int p1)] 1) := fun t k => pre11 t (XS.icmpNo X0.here hx rfl (hb hby dP_19) rfl (teq hc19).2 k)
        obtain ⟨T13, X13, e13, st13⟩ := getS2 X0 hx hZ hown (host := "") (Or.inl (hw _ (List.mem_of_getElem? (i := 36) rfl))) Via.refl e0 S2 (g := (mkF m 22 #[.val (.int p1)] [])) rfl (hb hby dP_22)
        have pre14 : Go p e below T13 (mkF m 25 #[.val (.int p1)] [(.ref w2)]) s₁ (entryFrame m #[(.int p1)] 1) := fun t k => pre12 t (st13 t k)
        obtain ⟨fs, hr, hrun, hended, hW, hsame⟩ := X13.leave (v := some (.ref w2)) (fun h => by rw [Bd.returns] at h; cases h)
        refine ⟨_, _, pre14 _ (retOut X13 hx Bd.returns rfl (Or.inr (Or.inr (Or.inr (Or.inr ⟨rfl, rfl, rfl⟩)))) (hb hby dP_25) hr), hrun, hended, _, _, rfl, ?_, ⟨_, rfl⟩, hW, hsame.mono (by decide) (by decide)⟩
        show QP Z p1 w0 w1 w2 w3 w4 w5 w6 w7 w8 r h0 n0 _ T13.heap _
        rw [e13]
        exact ⟨by rw [← hR]; simp [pickF, hc1, hc10, hc19], N0, rfl⟩
      · have pre15 : Go p e below s₁ (mkF m 26 #[.val (.int p1)] []) s₁ (entryFrame m #[(.int p1)] 1) := fun t k => pre11 t (XS.icmpYes X0.here hx rfl (pc0 := 19) (pc' := 26) rfl (hb hby dP_19) rfl (feq hc19).2 (by decide) (by decide) k)
        have pre16 : Go p e below s₁ (mkF m 28 #[.val (.int p1)] [(.int (3 : Int32)), (.int p1)]) s₁ (entryFrame m #[(.int p1)] 1) := fun t k => pre15 t (by
            show Steps p.tables e below (s₁.setTop (mkF m 26 #[.val (.int p1)] [])) t
            refine XS.iloadN X0.here hx rfl (hb hby dP_26) rfl ?_
            show Steps p.tables e below (s₁.setTop (mkF m 27 #[.val (.int p1)] [(.int p1)])) t
            refine XS.iconst X0.here hx rfl (hb hby dP_27) ?_
            exact k)
        by_cases hc28 : p1 = (3 : Int32)
        · have pre17 : Go p e below s₁ (mkF m 31 #[.val (.int p1)] []) s₁ (entryFrame m #[(.int p1)] 1) := fun t k => pre16 t (XS.icmpNo X0.here hx rfl (hb hby dP_28) rfl (teq hc28).2 k)
          obtain ⟨T18, X18, e18, st18⟩ := getS2 X0 hx hZ hown (host := "") (Or.inl (hw _ (List.mem_of_getElem? (i := 8) rfl))) Via.refl e0 S3 (g := (mkF m 31 #[.val (.int p1)] [])) rfl (hb hby dP_31)
          have pre19 : Go p e below T18 (mkF m 34 #[.val (.int p1)] [(.ref w3)]) s₁ (entryFrame m #[(.int p1)] 1) := fun t k => pre17 t (st18 t k)
          obtain ⟨fs, hr, hrun, hended, hW, hsame⟩ := X18.leave (v := some (.ref w3)) (fun h => by rw [Bd.returns] at h; cases h)
          refine ⟨_, _, pre19 _ (retOut X18 hx Bd.returns rfl (Or.inr (Or.inr (Or.inr (Or.inr ⟨rfl, rfl, rfl⟩)))) (hb hby dP_34) hr), hrun, hended, _, _, rfl, ?_, ⟨_, rfl⟩, hW, hsame.mono (by decide) (by decide)⟩
          show QP Z p1 w0 w1 w2 w3 w4 w5 w6 w7 w8 r h0 n0 _ T18.heap _
          rw [e18]
          exact ⟨by rw [← hR]; simp [pickF, hc1, hc10, hc19, hc28], N0, rfl⟩
        · have pre20 : Go p e below s₁ (mkF m 35 #[.val (.int p1)] []) s₁ (entryFrame m #[(.int p1)] 1) := fun t k => pre16 t (XS.icmpYes X0.here hx rfl (pc0 := 28) (pc' := 35) rfl (hb hby dP_28) rfl (feq hc28).2 (by decide) (by decide) k)
          have pre21 : Go p e below s₁ (mkF m 37 #[.val (.int p1)] [(.int (4 : Int32)), (.int p1)]) s₁ (entryFrame m #[(.int p1)] 1) := fun t k => pre20 t (by
              show Steps p.tables e below (s₁.setTop (mkF m 35 #[.val (.int p1)] [])) t
              refine XS.iloadN X0.here hx rfl (hb hby dP_35) rfl ?_
              show Steps p.tables e below (s₁.setTop (mkF m 36 #[.val (.int p1)] [(.int p1)])) t
              refine XS.iconst X0.here hx rfl (hb hby dP_36) ?_
              exact k)
          by_cases hc37 : p1 = (4 : Int32)
          · have pre22 : Go p e below s₁ (mkF m 40 #[.val (.int p1)] []) s₁ (entryFrame m #[(.int p1)] 1) := fun t k => pre21 t (XS.icmpNo X0.here hx rfl (hb hby dP_37) rfl (teq hc37).2 k)
            obtain ⟨T23, X23, e23, st23⟩ := getS2 X0 hx hZ hown (host := "") (Or.inl (hw _ (List.mem_of_getElem? (i := 38) rfl))) Via.refl e0 S4 (g := (mkF m 40 #[.val (.int p1)] [])) rfl (hb hby dP_40)
            have pre24 : Go p e below T23 (mkF m 43 #[.val (.int p1)] [(.ref w4)]) s₁ (entryFrame m #[(.int p1)] 1) := fun t k => pre22 t (st23 t k)
            obtain ⟨fs, hr, hrun, hended, hW, hsame⟩ := X23.leave (v := some (.ref w4)) (fun h => by rw [Bd.returns] at h; cases h)
            refine ⟨_, _, pre24 _ (retOut X23 hx Bd.returns rfl (Or.inr (Or.inr (Or.inr (Or.inr ⟨rfl, rfl, rfl⟩)))) (hb hby dP_43) hr), hrun, hended, _, _, rfl, ?_, ⟨_, rfl⟩, hW, hsame.mono (by decide) (by decide)⟩
            show QP Z p1 w0 w1 w2 w3 w4 w5 w6 w7 w8 r h0 n0 _ T23.heap _
            rw [e23]
            exact ⟨by rw [← hR]; simp [pickF, hc1, hc10, hc19, hc28, hc37], N0, rfl⟩
          · have pre25 : Go p e below s₁ (mkF m 44 #[.val (.int p1)] []) s₁ (entryFrame m #[(.int p1)] 1) := fun t k => pre21 t (XS.icmpYes X0.here hx rfl (pc0 := 37) (pc' := 44) rfl (hb hby dP_37) rfl (feq hc37).2 (by decide) (by decide) k)
            have pre26 : Go p e below s₁ (mkF m 46 #[.val (.int p1)] [(.int (5 : Int32)), (.int p1)]) s₁ (entryFrame m #[(.int p1)] 1) := fun t k => pre25 t (by
                show Steps p.tables e below (s₁.setTop (mkF m 44 #[.val (.int p1)] [])) t
                refine XS.iloadN X0.here hx rfl (hb hby dP_44) rfl ?_
                show Steps p.tables e below (s₁.setTop (mkF m 45 #[.val (.int p1)] [(.int p1)])) t
                refine XS.iconst X0.here hx rfl (hb hby dP_45) ?_
                exact k)
            by_cases hc46 : p1 = (5 : Int32)
            · have pre27 : Go p e below s₁ (mkF m 49 #[.val (.int p1)] []) s₁ (entryFrame m #[(.int p1)] 1) := fun t k => pre26 t (XS.icmpNo X0.here hx rfl (hb hby dP_46) rfl (teq hc46).2 k)
              obtain ⟨T28, X28, e28, st28⟩ := getS2 X0 hx hZ hown (host := "") (Or.inl (hw _ (List.mem_of_getElem? (i := 27) rfl))) Via.refl e0 S5 (g := (mkF m 49 #[.val (.int p1)] [])) rfl (hb hby dP_49)
              have pre29 : Go p e below T28 (mkF m 52 #[.val (.int p1)] [(.ref w5)]) s₁ (entryFrame m #[(.int p1)] 1) := fun t k => pre27 t (st28 t k)
              obtain ⟨fs, hr, hrun, hended, hW, hsame⟩ := X28.leave (v := some (.ref w5)) (fun h => by rw [Bd.returns] at h; cases h)
              refine ⟨_, _, pre29 _ (retOut X28 hx Bd.returns rfl (Or.inr (Or.inr (Or.inr (Or.inr ⟨rfl, rfl, rfl⟩)))) (hb hby dP_52) hr), hrun, hended, _, _, rfl, ?_, ⟨_, rfl⟩, hW, hsame.mono (by decide) (by decide)⟩
              show QP Z p1 w0 w1 w2 w3 w4 w5 w6 w7 w8 r h0 n0 _ T28.heap _
              rw [e28]
              exact ⟨by rw [← hR]; simp [pickF, hc1, hc10, hc19, hc28, hc37, hc46], N0, rfl⟩
            · have pre30 : Go p e below s₁ (mkF m 53 #[.val (.int p1)] []) s₁ (entryFrame m #[(.int p1)] 1) := fun t k => pre26 t (XS.icmpYes X0.here hx rfl (pc0 := 46) (pc' := 53) rfl (hb hby dP_46) rfl (feq hc46).2 (by decide) (by decide) k)
              have pre31 : Go p e below s₁ (mkF m 56 #[.val (.int p1)] [(.int (6 : Int32)), (.int p1)]) s₁ (entryFrame m #[(.int p1)] 1) := fun t k => pre30 t (by
                  show Steps p.tables e below (s₁.setTop (mkF m 53 #[.val (.int p1)] [])) t
                  refine XS.iloadN X0.here hx rfl (hb hby dP_53) rfl ?_
                  show Steps p.tables e below (s₁.setTop (mkF m 54 #[.val (.int p1)] [(.int p1)])) t
                  refine XS.bipush X0.here hx rfl (hb hby dP_54) ?_
                  exact k)
              by_cases hc56 : p1 = (6 : Int32)
              · have pre32 : Go p e below s₁ (mkF m 59 #[.val (.int p1)] []) s₁ (entryFrame m #[(.int p1)] 1) := fun t k => pre31 t (XS.icmpNo X0.here hx rfl (hb hby dP_56) rfl (teq hc56).2 k)
                obtain ⟨T33, X33, e33, st33⟩ := getS2 X0 hx hZ hown (host := "") (Or.inl (hw _ (List.mem_of_getElem? (i := 43) rfl))) Via.refl e0 S6 (g := (mkF m 59 #[.val (.int p1)] [])) rfl (hb hby dP_59)
                have pre34 : Go p e below T33 (mkF m 62 #[.val (.int p1)] [(.ref w6)]) s₁ (entryFrame m #[(.int p1)] 1) := fun t k => pre32 t (st33 t k)
                obtain ⟨fs, hr, hrun, hended, hW, hsame⟩ := X33.leave (v := some (.ref w6)) (fun h => by rw [Bd.returns] at h; cases h)
                refine ⟨_, _, pre34 _ (retOut X33 hx Bd.returns rfl (Or.inr (Or.inr (Or.inr (Or.inr ⟨rfl, rfl, rfl⟩)))) (hb hby dP_62) hr), hrun, hended, _, _, rfl, ?_, ⟨_, rfl⟩, hW, hsame.mono (by decide) (by decide)⟩
                show QP Z p1 w0 w1 w2 w3 w4 w5 w6 w7 w8 r h0 n0 _ T33.heap _
                rw [e33]
                exact ⟨by rw [← hR]; simp [pickF, hc1, hc10, hc19, hc28, hc37, hc46, hc56], N0, rfl⟩
              · have pre35 : Go p e below s₁ (mkF m 63 #[.val (.int p1)] []) s₁ (entryFrame m #[(.int p1)] 1) := fun t k => pre31 t (XS.icmpYes X0.here hx rfl (pc0 := 56) (pc' := 63) rfl (hb hby dP_56) rfl (feq hc56).2 (by decide) (by decide) k)
                have pre36 : Go p e below s₁ (mkF m 66 #[.val (.int p1)] [(.int (7 : Int32)), (.int p1)]) s₁ (entryFrame m #[(.int p1)] 1) := fun t k => pre35 t (by
                    show Steps p.tables e below (s₁.setTop (mkF m 63 #[.val (.int p1)] [])) t
                    refine XS.iloadN X0.here hx rfl (hb hby dP_63) rfl ?_
                    show Steps p.tables e below (s₁.setTop (mkF m 64 #[.val (.int p1)] [(.int p1)])) t
                    refine XS.bipush X0.here hx rfl (hb hby dP_64) ?_
                    exact k)
                by_cases hc66 : p1 = (7 : Int32)
                · have pre37 : Go p e below s₁ (mkF m 69 #[.val (.int p1)] []) s₁ (entryFrame m #[(.int p1)] 1) := fun t k => pre36 t (XS.icmpNo X0.here hx rfl (hb hby dP_66) rfl (teq hc66).2 k)
                  obtain ⟨T38, X38, e38, st38⟩ := getS2 X0 hx hZ hown (host := "") (Or.inl (hw _ (List.mem_of_getElem? (i := 46) rfl))) Via.refl e0 S7 (g := (mkF m 69 #[.val (.int p1)] [])) rfl (hb hby dP_69)
                  have pre39 : Go p e below T38 (mkF m 72 #[.val (.int p1)] [(.ref w7)]) s₁ (entryFrame m #[(.int p1)] 1) := fun t k => pre37 t (st38 t k)
                  obtain ⟨fs, hr, hrun, hended, hW, hsame⟩ := X38.leave (v := some (.ref w7)) (fun h => by rw [Bd.returns] at h; cases h)
                  refine ⟨_, _, pre39 _ (retOut X38 hx Bd.returns rfl (Or.inr (Or.inr (Or.inr (Or.inr ⟨rfl, rfl, rfl⟩)))) (hb hby dP_72) hr), hrun, hended, _, _, rfl, ?_, ⟨_, rfl⟩, hW, hsame.mono (by decide) (by decide)⟩
                  show QP Z p1 w0 w1 w2 w3 w4 w5 w6 w7 w8 r h0 n0 _ T38.heap _
                  rw [e38]
                  exact ⟨by rw [← hR]; simp [pickF, hc1, hc10, hc19, hc28, hc37, hc46, hc56, hc66], N0, rfl⟩
                · have pre40 : Go p e below s₁ (mkF m 73 #[.val (.int p1)] []) s₁ (entryFrame m #[(.int p1)] 1) := fun t k => pre36 t (XS.icmpYes X0.here hx rfl (pc0 := 66) (pc' := 73) rfl (hb hby dP_66) rfl (feq hc66).2 (by decide) (by decide) k)
                  obtain ⟨T41, X41, e41, st41⟩ := getS2 X0 hx hZ hown (host := "") (Or.inl (hw _ (List.mem_of_getElem? (i := 44) rfl))) Via.refl e0 S8 (g := (mkF m 73 #[.val (.int p1)] [])) rfl (hb hby dP_73)
                  have pre42 : Go p e below T41 (mkF m 76 #[.val (.int p1)] [(.ref w8)]) s₁ (entryFrame m #[(.int p1)] 1) := fun t k => pre40 t (st41 t k)
                  obtain ⟨fs, hr, hrun, hended, hW, hsame⟩ := X41.leave (v := some (.ref w8)) (fun h => by rw [Bd.returns] at h; cases h)
                  refine ⟨_, _, pre42 _ (retOut X41 hx Bd.returns rfl (Or.inr (Or.inr (Or.inr (Or.inr ⟨rfl, rfl, rfl⟩)))) (hb hby dP_76) hr), hrun, hended, _, _, rfl, ?_, ⟨_, rfl⟩, hW, hsame.mono (by decide) (by decide)⟩
                  show QP Z p1 w0 w1 w2 w3 w4 w5 w6 w7 w8 r h0 n0 _ T41.heap _
                  rw [e41]
                  exact ⟨by rw [← hR]; simp [pickF, hc1, hc10, hc19, hc28, hc37, hc46, hc56, hc66], N0, rfl⟩
theorem dO_0 : decode jdk_37_method_2_code 0 = .ok (.aload_n 0, 1) := by decide +kernel
theorem dO_1 : decode jdk_37_method_2_code 1 = .ok (.getfield 7, 3) := by decide +kernel
theorem dO_4 : decode jdk_37_method_2_code 4 = .ok (.ireturn, 1) := by decide +kernel
theorem pnO : plainName "java/lang/Enum" = true := by first | (simp [plainName, overriddenIn]; done) | decide +kernel
theorem efO (m : MethodId) (a1 : Addr) : entryFrame m #[(.ref a1)] 1 = mkF m 0 #[.val (.ref a1)] [] := by first | (simp [entryFrame, mkF, argsToLocals, Value.category]; done) | rfl
def QO (Z : State) (a1 : Addr) (r : Int32) (h0 : Heap) (n0 : Nat) (v : Option Value) (h : Heap) (L : List Loc) : Prop := v = some (.int r) ∧ Fr n0 L ∧ h = h0
set_option maxRecDepth 65536 in
set_option maxHeartbeats 40000000 in
theorem rmO (l : Launch) (Z : State) (a0 : Array Value) (hw : ∀ d ∈ tables_1, d.before a0 Z = true) (ws : List Jvm.Cond) (a1 : Addr) (r : Int32) (h0 : Heap) (n0 : Nat) (Z0 : n0 ≤ h0.size) (F1 : Fld Z h0 a1 "java/lang/Enum" "ordinal" "I" (.int r)) :
    MetFree l (⟨"java/lang/Enum", "ordinal", "()I"⟩ : MethodName) (head1 (Jvm.Cond.code (⟨"java/lang/Enum", "ordinal", "()I"⟩ : MethodName) jdk_37_method_2_code 1 (some .int) :: ws) ({ frames := 0, cells := 0, slots := 0, locals := 0 } : Room)) (fun a U => a = #[(.ref a1)] ∧ Z.Warmed39 U.vm ∧ U.heap = h0) (fun _ _ _ _ _ => True) (fun _ U o U' => ∃ v L, o = .returned v ∧ QO Z a1 r h0 n0 v U'.heap L ∧ FrameEnd U o U' L ({ frames := 0, cells := 0, slots := 0, locals := 0 } : Room).cells ({ frames := 0, cells := 0, slots := 0, locals := 0 } : Room).slots) := by
  refine MetFree.of_bodySF (plainFor_of_name pnO) hisR ?_
  intro p e s m args below meth c s₁ Bd hml0 hP hK
  obtain ⟨rfl, hZ, hh⟩ := hP
  have hx := Bd.exec
  have hby := Bd.bytes
  have hml : c.maxLocals = 1 := hml0
  have hown : s.vm.findClass "java/lang/Enum" = some m.cls := findClass_of_methodNamed Bd.named
  have hnm := (name_of_methodNamed Bd.named Bd.method).1
  have X0 : Stand p l e ({ frames := 0, cells := 0, slots := 0, locals := 0 } : Room) s m #[(.ref a1)] below meth c s₁ [] 0 0 := Stand.of_body Bd
  have e0 : s₁.heap = h0 := by rw [← hh, Bd.state]; rfl
  have N0 := Fr.nil n0
  have pre0 : Go p e below s₁ (mkF m 0 #[.val (.ref a1)] []) s₁ (entryFrame m #[(.ref a1)] 1) := fun t k => castTop (efO m a1) k
  have pre1 : Go p e below s₁ (mkF m 1 #[.val (.ref a1)] [(.ref a1)]) s₁ (entryFrame m #[(.ref a1)] 1) := fun t k => pre0 t (by
      show Steps p.tables e below (s₁.setTop (mkF m 0 #[.val (.ref a1)] [])) t
      refine XS.aloadN X0.here hx rfl (hb hby dO_0) rfl rfl ?_
      exact k)
  obtain ⟨T2, X2, e2, st2⟩ := getF X0 hx hZ hown (host := "") (Or.inl (hw _ (List.mem_of_getElem? (i := 25) rfl))) Via.refl e0 F1 (g := (mkF m 1 #[.val (.ref a1)] [(.ref a1)])) rfl rfl (hb hby dO_1)
  have pre3 : Go p e below T2 (mkF m 4 #[.val (.ref a1)] [(.int r)]) s₁ (entryFrame m #[(.ref a1)] 1) := fun t k => pre1 t (st2 t k)
  obtain ⟨fs, hr, hrun, hended, hW, hsame⟩ := X2.leave (v := some (.int r)) (fun h => by rw [Bd.returns] at h; cases h)
  refine ⟨_, _, pre3 _ (retOut X2 hx Bd.returns rfl (Or.inl ⟨rfl, Or.inl rfl, _, rfl⟩) (hb hby dO_4) hr), hrun, hended, _, _, rfl, ?_, ⟨_, rfl⟩, hW, hsame.mono (by decide) (by decide)⟩
  show QO Z a1 r h0 n0 _ T2.heap _
  rw [e2]
  exact ⟨rfl, N0, rfl⟩
def rankF (i : Int32) : Int32 := if i = 1 then 0 else if i = 2 then 1 else if i = 3 then 1 else if i = 4 then 2 else if i = 5 then 3 else if i = 6 then 4 else if i = 7 then 5 else -1
theorem dK_0 : decode method_3_code 0 = .ok (.iload_n 0, 1) := by decide +kernel
theorem dK_1 : decode method_3_code 1 = .ok (.iconst 1, 1) := by decide +kernel
theorem dK_2 : decode method_3_code 2 = .ok (.if_icmp .ne 5, 3) := by decide +kernel
theorem dK_5 : decode method_3_code 5 = .ok (.iconst 0, 1) := by decide +kernel
theorem dK_6 : decode method_3_code 6 = .ok (.ireturn, 1) := by decide +kernel
theorem dK_7 : decode method_3_code 7 = .ok (.iload_n 0, 1) := by decide +kernel
theorem dK_8 : decode method_3_code 8 = .ok (.iconst 2, 1) := by decide +kernel
theorem dK_9 : decode method_3_code 9 = .ok (.if_icmp .eq 8, 3) := by decide +kernel
theorem dK_12 : decode method_3_code 12 = .ok (.iload_n 0, 1) := by decide +kernel
theorem dK_13 : decode method_3_code 13 = .ok (.iconst 3, 1) := by decide +kernel
theorem dK_14 : decode method_3_code 14 = .ok (.if_icmp .ne 5, 3) := by decide +kernel
theorem dK_17 : decode method_3_code 17 = .ok (.iconst 1, 1) := by decide +kernel
theorem dK_18 : decode method_3_code 18 = .ok (.ireturn, 1) := by decide +kernel
theorem dK_19 : decode method_3_code 19 = .ok (.iload_n 0, 1) := by decide +kernel
theorem dK_20 : decode method_3_code 20 = .ok (.iconst 4, 1) := by decide +kernel
theorem dK_21 : decode method_3_code 21 = .ok (.if_icmp .ne 5, 3) := by decide +kernel
theorem dK_24 : decode method_3_code 24 = .ok (.iconst 2, 1) := by decide +kernel
theorem dK_25 : decode method_3_code 25 = .ok (.ireturn, 1) := by decide +kernel
theorem dK_26 : decode method_3_code 26 = .ok (.iload_n 0, 1) := by decide +kernel
theorem dK_27 : decode method_3_code 27 = .ok (.iconst 5, 1) := by decide +kernel
theorem dK_28 : decode method_3_code 28 = .ok (.if_icmp .ne 5, 3) := by decide +kernel
theorem dK_31 : decode method_3_code 31 = .ok (.iconst 3, 1) := by decide +kernel
theorem dK_32 : decode method_3_code 32 = .ok (.ireturn, 1) := by decide +kernel
theorem dK_33 : decode method_3_code 33 = .ok (.iload_n 0, 1) := by decide +kernel
theorem dK_34 : decode method_3_code 34 = .ok (.bipush 6, 2) := by decide +kernel
theorem dK_36 : decode method_3_code 36 = .ok (.if_icmp .ne 5, 3) := by decide +kernel
theorem dK_39 : decode method_3_code 39 = .ok (.iconst 4, 1) := by decide +kernel
theorem dK_40 : decode method_3_code 40 = .ok (.ireturn, 1) := by decide +kernel
theorem dK_41 : decode method_3_code 41 = .ok (.iload_n 0, 1) := by decide +kernel
theorem dK_42 : decode method_3_code 42 = .ok (.bipush 7, 2) := by decide +kernel
theorem dK_44 : decode method_3_code 44 = .ok (.if_icmp .ne 5, 3) := by decide +kernel
theorem dK_47 : decode method_3_code 47 = .ok (.iconst 5, 1) := by decide +kernel
theorem dK_48 : decode method_3_code 48 = .ok (.ireturn, 1) := by decide +kernel
theorem dK_49 : decode method_3_code 49 = .ok (.iconst (-1), 1) := by decide +kernel
theorem dK_50 : decode method_3_code 50 = .ok (.ireturn, 1) := by decide +kernel
theorem pnK : plainName "com/example/whisker/whisker/PrimitiveTypeWidensToPinLaw" = true := by first | (simp [plainName, overriddenIn]; done) | decide +kernel
theorem efK (m : MethodId) (p1 : Int32) : entryFrame m #[(.int p1)] 1 = mkF m 0 #[.val (.int p1)] [] := by first | (simp [entryFrame, mkF, argsToLocals, Value.category]; done) | rfl
def QK (Z : State) (p1 : Int32) (r : Int32) (h0 : Heap) (n0 : Nat) (v : Option Value) (h : Heap) (L : List Loc) : Prop := v = some (.int r) ∧ Fr n0 L ∧ h = h0
set_option maxRecDepth 65536 in
set_option maxHeartbeats 40000000 in
theorem rmK (l : Launch) (Z : State) (a0 : Array Value) (hw : ∀ d ∈ tables_1, d.before a0 Z = true) (ws : List Jvm.Cond) (p1 : Int32) (r : Int32) (h0 : Heap) (n0 : Nat) (Z0 : n0 ≤ h0.size) (hR : rankF p1 = r) :
    MetFree l (⟨"com/example/whisker/whisker/PrimitiveTypeWidensToPinLaw", "rank", "(I)I"⟩ : MethodName) (head1 (Jvm.Cond.code (⟨"com/example/whisker/whisker/PrimitiveTypeWidensToPinLaw", "rank", "(I)I"⟩ : MethodName) method_3_code 1 (some .int) :: ws) ({ frames := 0, cells := 0, slots := 0, locals := 0 } : Room)) (fun a U => a = #[(.int p1)] ∧ Z.Warmed39 U.vm ∧ U.heap = h0) (fun _ _ _ _ _ => True) (fun _ U o U' => ∃ v L, o = .returned v ∧ QK Z p1 r h0 n0 v U'.heap L ∧ FrameEnd U o U' L ({ frames := 0, cells := 0, slots := 0, locals := 0 } : Room).cells ({ frames := 0, cells := 0, slots := 0, locals := 0 } : Room).slots) := by
  refine MetFree.of_bodySF (plainFor_of_name pnK) hisR ?_
  intro p e s m args below meth c s₁ Bd hml0 hP hK
  obtain ⟨rfl, hZ, hh⟩ := hP
  have hx := Bd.exec
  have hby := Bd.bytes
  have hml : c.maxLocals = 1 := hml0
  have hown : s.vm.findClass "com/example/whisker/whisker/PrimitiveTypeWidensToPinLaw" = some m.cls := findClass_of_methodNamed Bd.named
  have hnm := (name_of_methodNamed Bd.named Bd.method).1
  have X0 : Stand p l e ({ frames := 0, cells := 0, slots := 0, locals := 0 } : Room) s m #[(.int p1)] below meth c s₁ [] 0 0 := Stand.of_body Bd
  have e0 : s₁.heap = h0 := by rw [← hh, Bd.state]; rfl
  have N0 := Fr.nil n0
  have pre0 : Go p e below s₁ (mkF m 0 #[.val (.int p1)] []) s₁ (entryFrame m #[(.int p1)] 1) := fun t k => castTop (efK m p1) k
  have pre1 : Go p e below s₁ (mkF m 2 #[.val (.int p1)] [(.int (1 : Int32)), (.int p1)]) s₁ (entryFrame m #[(.int p1)] 1) := fun t k => pre0 t (by
      show Steps p.tables e below (s₁.setTop (mkF m 0 #[.val (.int p1)] [])) t
      refine XS.iloadN X0.here hx rfl (hb hby dK_0) rfl ?_
      show Steps p.tables e below (s₁.setTop (mkF m 1 #[.val (.int p1)] [(.int p1)])) t
      refine XS.iconst X0.here hx rfl (hb hby dK_1) ?_
      exact k)
  by_cases hc2 : p1 = (1 : Int32)
  · have pre2 : Go p e below s₁ (mkF m 5 #[.val (.int p1)] []) s₁ (entryFrame m #[(.int p1)] 1) := fun t k => pre1 t (XS.icmpNo X0.here hx rfl (hb hby dK_2) rfl (teq hc2).2 k)
    have pre3 : Go p e below s₁ (mkF m 6 #[.val (.int p1)] [(.int (0 : Int32))]) s₁ (entryFrame m #[(.int p1)] 1) := fun t k => pre2 t (by
        show Steps p.tables e below (s₁.setTop (mkF m 5 #[.val (.int p1)] [])) t
        refine XS.iconst X0.here hx rfl (hb hby dK_5) ?_
        exact k)
    obtain ⟨fs, hr, hrun, hended, hW, hsame⟩ := X0.leave (v := some (.int (0 : Int32))) (fun h => by rw [Bd.returns] at h; cases h)
    refine ⟨_, _, pre3 _ (retOut X0 hx Bd.returns rfl (Or.inl ⟨rfl, Or.inl rfl, _, rfl⟩) (hb hby dK_6) hr), hrun, hended, _, _, rfl, ?_, ⟨_, rfl⟩, hW, hsame.mono (by decide) (by decide)⟩
    show QK Z p1 r h0 n0 _ s₁.heap _
    rw [e0]
    exact ⟨by rw [← hR]; simp [rankF, hc2], N0, rfl⟩
  · have pre4 : Go p e below s₁ (mkF m 7 #[.val (.int p1)] []) s₁ (entryFrame m #[(.int p1)] 1) := fun t k => pre1 t (XS.icmpYes X0.here hx rfl (pc0 := 2) (pc' := 7) rfl (hb hby dK_2) rfl (feq hc2).2 (by decide) (by decide) k)
    have pre5 : Go p e below s₁ (mkF m 9 #[.val (.int p1)] [(.int (2 : Int32)), (.int p1)]) s₁ (entryFrame m #[(.int p1)] 1) := fun t k => pre4 t (by
        show Steps p.tables e below (s₁.setTop (mkF m 7 #[.val (.int p1)] [])) t
        refine XS.iloadN X0.here hx rfl (hb hby dK_7) rfl ?_
        show Steps p.tables e below (s₁.setTop (mkF m 8 #[.val (.int p1)] [(.int p1)])) t
        refine XS.iconst X0.here hx rfl (hb hby dK_8) ?_
        exact k)
    by_cases hc9 : p1 = (2 : Int32)
    · have pre6 : Go p e below s₁ (mkF m 17 #[.val (.int p1)] []) s₁ (entryFrame m #[(.int p1)] 1) := fun t k => pre5 t (XS.icmpYes X0.here hx rfl (pc0 := 9) (pc' := 17) rfl (hb hby dK_9) rfl (teq hc9).1 (by decide) (by decide) k)
      have pre7 : Go p e below s₁ (mkF m 18 #[.val (.int p1)] [(.int (1 : Int32))]) s₁ (entryFrame m #[(.int p1)] 1) := fun t k => pre6 t (by
          show Steps p.tables e below (s₁.setTop (mkF m 17 #[.val (.int p1)] [])) t
          refine XS.iconst X0.here hx rfl (hb hby dK_17) ?_
          exact k)
      obtain ⟨fs, hr, hrun, hended, hW, hsame⟩ := X0.leave (v := some (.int (1 : Int32))) (fun h => by rw [Bd.returns] at h; cases h)
      refine ⟨_, _, pre7 _ (retOut X0 hx Bd.returns rfl (Or.inl ⟨rfl, Or.inl rfl, _, rfl⟩) (hb hby dK_18) hr), hrun, hended, _, _, rfl, ?_, ⟨_, rfl⟩, hW, hsame.mono (by decide) (by decide)⟩
      show QK Z p1 r h0 n0 _ s₁.heap _
      rw [e0]
      exact ⟨by rw [← hR]; simp [rankF, hc2, hc9], N0, rfl⟩
    · have pre8 : Go p e below s₁ (mkF m 12 #[.val (.int p1)] []) s₁ (entryFrame m #[(.int p1)] 1) := fun t k => pre5 t (XS.icmpNo X0.here hx rfl (hb hby dK_9) rfl (feq hc9).1 k)
      have pre9 : Go p e below s₁ (mkF m 14 #[.val (.int p1)] [(.int (3 : Int32)), (.int p1)]) s₁ (entryFrame m #[(.int p1)] 1) := fun t k => pre8 t (by
          show Steps p.tables e below (s₁.setTop (mkF m 12 #[.val (.int p1)] [])) t
          refine XS.iloadN X0.here hx rfl (hb hby dK_12) rfl ?_
          show Steps p.tables e below (s₁.setTop (mkF m 13 #[.val (.int p1)] [(.int p1)])) t
          refine XS.iconst X0.here hx rfl (hb hby dK_13) ?_
          exact k)
      by_cases hc14 : p1 = (3 : Int32)
      · have pre10 : Go p e below s₁ (mkF m 17 #[.val (.int p1)] []) s₁ (entryFrame m #[(.int p1)] 1) := fun t k => pre9 t (XS.icmpNo X0.here hx rfl (hb hby dK_14) rfl (teq hc14).2 k)
        have pre11 : Go p e below s₁ (mkF m 18 #[.val (.int p1)] [(.int (1 : Int32))]) s₁ (entryFrame m #[(.int p1)] 1) := fun t k => pre10 t (by
            show Steps p.tables e below (s₁.setTop (mkF m 17 #[.val (.int p1)] [])) t
            refine XS.iconst X0.here hx rfl (hb hby dK_17) ?_
            exact k)
        obtain ⟨fs, hr, hrun, hended, hW, hsame⟩ := X0.leave (v := some (.int (1 : Int32))) (fun h => by rw [Bd.returns] at h; cases h)
        refine ⟨_, _, pre11 _ (retOut X0 hx Bd.returns rfl (Or.inl ⟨rfl, Or.inl rfl, _, rfl⟩) (hb hby dK_18) hr), hrun, hended, _, _, rfl, ?_, ⟨_, rfl⟩, hW, hsame.mono (by decide) (by decide)⟩
        show QK Z p1 r h0 n0 _ s₁.heap _
        rw [e0]
        exact ⟨by rw [← hR]; simp [rankF, hc2, hc9, hc14], N0, rfl⟩
      · have pre12 : Go p e below s₁ (mkF m 19 #[.val (.int p1)] []) s₁ (entryFrame m #[(.int p1)] 1) := fun t k => pre9 t (XS.icmpYes X0.here hx rfl (pc0 := 14) (pc' := 19) rfl (hb hby dK_14) rfl (feq hc14).2 (by decide) (by decide) k)
        have pre13 : Go p e below s₁ (mkF m 21 #[.val (.int p1)] [(.int (4 : Int32)), (.int p1)]) s₁ (entryFrame m #[(.int p1)] 1) := fun t k => pre12 t (by
            show Steps p.tables e below (s₁.setTop (mkF m 19 #[.val (.int p1)] [])) t
            refine XS.iloadN X0.here hx rfl (hb hby dK_19) rfl ?_
            show Steps p.tables e below (s₁.setTop (mkF m 20 #[.val (.int p1)] [(.int p1)])) t
            refine XS.iconst X0.here hx rfl (hb hby dK_20) ?_
            exact k)
        by_cases hc21 : p1 = (4 : Int32)
        · have pre14 : Go p e below s₁ (mkF m 24 #[.val (.int p1)] []) s₁ (entryFrame m #[(.int p1)] 1) := fun t k => pre13 t (XS.icmpNo X0.here hx rfl (hb hby dK_21) rfl (teq hc21).2 k)
          have pre15 : Go p e below s₁ (mkF m 25 #[.val (.int p1)] [(.int (2 : Int32))]) s₁ (entryFrame m #[(.int p1)] 1) := fun t k => pre14 t (by
              show Steps p.tables e below (s₁.setTop (mkF m 24 #[.val (.int p1)] [])) t
              refine XS.iconst X0.here hx rfl (hb hby dK_24) ?_
              exact k)
          obtain ⟨fs, hr, hrun, hended, hW, hsame⟩ := X0.leave (v := some (.int (2 : Int32))) (fun h => by rw [Bd.returns] at h; cases h)
          refine ⟨_, _, pre15 _ (retOut X0 hx Bd.returns rfl (Or.inl ⟨rfl, Or.inl rfl, _, rfl⟩) (hb hby dK_25) hr), hrun, hended, _, _, rfl, ?_, ⟨_, rfl⟩, hW, hsame.mono (by decide) (by decide)⟩
          show QK Z p1 r h0 n0 _ s₁.heap _
          rw [e0]
          exact ⟨by rw [← hR]; simp [rankF, hc2, hc9, hc14, hc21], N0, rfl⟩
        · have pre16 : Go p e below s₁ (mkF m 26 #[.val (.int p1)] []) s₁ (entryFrame m #[(.int p1)] 1) := fun t k => pre13 t (XS.icmpYes X0.here hx rfl (pc0 := 21) (pc' := 26) rfl (hb hby dK_21) rfl (feq hc21).2 (by decide) (by decide) k)
          have pre17 : Go p e below s₁ (mkF m 28 #[.val (.int p1)] [(.int (5 : Int32)), (.int p1)]) s₁ (entryFrame m #[(.int p1)] 1) := fun t k => pre16 t (by
              show Steps p.tables e below (s₁.setTop (mkF m 26 #[.val (.int p1)] [])) t
              refine XS.iloadN X0.here hx rfl (hb hby dK_26) rfl ?_
              show Steps p.tables e below (s₁.setTop (mkF m 27 #[.val (.int p1)] [(.int p1)])) t
              refine XS.iconst X0.here hx rfl (hb hby dK_27) ?_
              exact k)
          by_cases hc28 : p1 = (5 : Int32)
          · have pre18 : Go p e below s₁ (mkF m 31 #[.val (.int p1)] []) s₁ (entryFrame m #[(.int p1)] 1) := fun t k => pre17 t (XS.icmpNo X0.here hx rfl (hb hby dK_28) rfl (teq hc28).2 k)
            have pre19 : Go p e below s₁ (mkF m 32 #[.val (.int p1)] [(.int (3 : Int32))]) s₁ (entryFrame m #[(.int p1)] 1) := fun t k => pre18 t (by
                show Steps p.tables e below (s₁.setTop (mkF m 31 #[.val (.int p1)] [])) t
                refine XS.iconst X0.here hx rfl (hb hby dK_31) ?_
                exact k)
            obtain ⟨fs, hr, hrun, hended, hW, hsame⟩ := X0.leave (v := some (.int (3 : Int32))) (fun h => by rw [Bd.returns] at h; cases h)
            refine ⟨_, _, pre19 _ (retOut X0 hx Bd.returns rfl (Or.inl ⟨rfl, Or.inl rfl, _, rfl⟩) (hb hby dK_32) hr), hrun, hended, _, _, rfl, ?_, ⟨_, rfl⟩, hW, hsame.mono (by decide) (by decide)⟩
            show QK Z p1 r h0 n0 _ s₁.heap _
            rw [e0]
            exact ⟨by rw [← hR]; simp [rankF, hc2, hc9, hc14, hc21, hc28], N0, rfl⟩
          · have pre20 : Go p e below s₁ (mkF m 33 #[.val (.int p1)] []) s₁ (entryFrame m #[(.int p1)] 1) := fun t k => pre17 t (XS.icmpYes X0.here hx rfl (pc0 := 28) (pc' := 33) rfl (hb hby dK_28) rfl (feq hc28).2 (by decide) (by decide) k)
            have pre21 : Go p e below s₁ (mkF m 36 #[.val (.int p1)] [(.int (6 : Int32)), (.int p1)]) s₁ (entryFrame m #[(.int p1)] 1) := fun t k => pre20 t (by
                show Steps p.tables e below (s₁.setTop (mkF m 33 #[.val (.int p1)] [])) t
                refine XS.iloadN X0.here hx rfl (hb hby dK_33) rfl ?_
                show Steps p.tables e below (s₁.setTop (mkF m 34 #[.val (.int p1)] [(.int p1)])) t
                refine XS.bipush X0.here hx rfl (hb hby dK_34) ?_
                exact k)
            by_cases hc36 : p1 = (6 : Int32)
            · have pre22 : Go p e below s₁ (mkF m 39 #[.val (.int p1)] []) s₁ (entryFrame m #[(.int p1)] 1) := fun t k => pre21 t (XS.icmpNo X0.here hx rfl (hb hby dK_36) rfl (teq hc36).2 k)
              have pre23 : Go p e below s₁ (mkF m 40 #[.val (.int p1)] [(.int (4 : Int32))]) s₁ (entryFrame m #[(.int p1)] 1) := fun t k => pre22 t (by
                  show Steps p.tables e below (s₁.setTop (mkF m 39 #[.val (.int p1)] [])) t
                  refine XS.iconst X0.here hx rfl (hb hby dK_39) ?_
                  exact k)
              obtain ⟨fs, hr, hrun, hended, hW, hsame⟩ := X0.leave (v := some (.int (4 : Int32))) (fun h => by rw [Bd.returns] at h; cases h)
              refine ⟨_, _, pre23 _ (retOut X0 hx Bd.returns rfl (Or.inl ⟨rfl, Or.inl rfl, _, rfl⟩) (hb hby dK_40) hr), hrun, hended, _, _, rfl, ?_, ⟨_, rfl⟩, hW, hsame.mono (by decide) (by decide)⟩
              show QK Z p1 r h0 n0 _ s₁.heap _
              rw [e0]
              exact ⟨by rw [← hR]; simp [rankF, hc2, hc9, hc14, hc21, hc28, hc36], N0, rfl⟩
            · have pre24 : Go p e below s₁ (mkF m 41 #[.val (.int p1)] []) s₁ (entryFrame m #[(.int p1)] 1) := fun t k => pre21 t (XS.icmpYes X0.here hx rfl (pc0 := 36) (pc' := 41) rfl (hb hby dK_36) rfl (feq hc36).2 (by decide) (by decide) k)
              have pre25 : Go p e below s₁ (mkF m 44 #[.val (.int p1)] [(.int (7 : Int32)), (.int p1)]) s₁ (entryFrame m #[(.int p1)] 1) := fun t k => pre24 t (by
                  show Steps p.tables e below (s₁.setTop (mkF m 41 #[.val (.int p1)] [])) t
                  refine XS.iloadN X0.here hx rfl (hb hby dK_41) rfl ?_
                  show Steps p.tables e below (s₁.setTop (mkF m 42 #[.val (.int p1)] [(.int p1)])) t
                  refine XS.bipush X0.here hx rfl (hb hby dK_42) ?_
                  exact k)
              by_cases hc44 : p1 = (7 : Int32)
              · have pre26 : Go p e below s₁ (mkF m 47 #[.val (.int p1)] []) s₁ (entryFrame m #[(.int p1)] 1) := fun t k => pre25 t (XS.icmpNo X0.here hx rfl (hb hby dK_44) rfl (teq hc44).2 k)
                have pre27 : Go p e below s₁ (mkF m 48 #[.val (.int p1)] [(.int (5 : Int32))]) s₁ (entryFrame m #[(.int p1)] 1) := fun t k => pre26 t (by
                    show Steps p.tables e below (s₁.setTop (mkF m 47 #[.val (.int p1)] [])) t
                    refine XS.iconst X0.here hx rfl (hb hby dK_47) ?_
                    exact k)
                obtain ⟨fs, hr, hrun, hended, hW, hsame⟩ := X0.leave (v := some (.int (5 : Int32))) (fun h => by rw [Bd.returns] at h; cases h)
                refine ⟨_, _, pre27 _ (retOut X0 hx Bd.returns rfl (Or.inl ⟨rfl, Or.inl rfl, _, rfl⟩) (hb hby dK_48) hr), hrun, hended, _, _, rfl, ?_, ⟨_, rfl⟩, hW, hsame.mono (by decide) (by decide)⟩
                show QK Z p1 r h0 n0 _ s₁.heap _
                rw [e0]
                exact ⟨by rw [← hR]; simp [rankF, hc2, hc9, hc14, hc21, hc28, hc36, hc44], N0, rfl⟩
              · have pre28 : Go p e below s₁ (mkF m 49 #[.val (.int p1)] []) s₁ (entryFrame m #[(.int p1)] 1) := fun t k => pre25 t (XS.icmpYes X0.here hx rfl (pc0 := 44) (pc' := 49) rfl (hb hby dK_44) rfl (feq hc44).2 (by decide) (by decide) k)
                have pre29 : Go p e below s₁ (mkF m 50 #[.val (.int p1)] [(.int (-1 : Int32))]) s₁ (entryFrame m #[(.int p1)] 1) := fun t k => pre28 t (by
                    show Steps p.tables e below (s₁.setTop (mkF m 49 #[.val (.int p1)] [])) t
                    refine XS.iconst X0.here hx rfl (hb hby dK_49) ?_
                    exact k)
                obtain ⟨fs, hr, hrun, hended, hW, hsame⟩ := X0.leave (v := some (.int (-1 : Int32))) (fun h => by rw [Bd.returns] at h; cases h)
                refine ⟨_, _, pre29 _ (retOut X0 hx Bd.returns rfl (Or.inl ⟨rfl, Or.inl rfl, _, rfl⟩) (hb hby dK_50) hr), hrun, hended, _, _, rfl, ?_, ⟨_, rfl⟩, hW, hsame.mono (by decide) (by decide)⟩
                show QK Z p1 r h0 n0 _ s₁.heap _
                rw [e0]
                exact ⟨by rw [← hR]; simp [rankF, hc2, hc9, hc14, hc21, hc28, hc36, hc44], N0, rfl⟩
def wF6 (a t w0 w1 w2 w3 w4 w5 w6 w7 w8 : Addr) : Int32 := if a = t then 1 else if t = w7 then 1 else 0
def wF5 (a t w0 w1 w2 w3 w4 w5 w6 w7 w8 : Addr) : Int32 := if a = t then 1 else if t = w6 then 1 else if wF6 w6 t w0 w1 w2 w3 w4 w5 w6 w7 w8 = 0 then 0 else 1
def wF4 (a t w0 w1 w2 w3 w4 w5 w6 w7 w8 : Addr) : Int32 := if a = t then 1 else if t = w5 then 1 else if wF5 w5 t w0 w1 w2 w3 w4 w5 w6 w7 w8 = 0 then 0 else 1
def wF1 (a t w0 w1 w2 w3 w4 w5 w6 w7 w8 : Addr) : Int32 := if a = t then 1 else if t = w2 then 1 else if wF4 w4 t w0 w1 w2 w3 w4 w5 w6 w7 w8 = 0 then 0 else 1
def wF2 (a t w0 w1 w2 w3 w4 w5 w6 w7 w8 : Addr) : Int32 := if a = t then 1 else wF4 w4 t w0 w1 w2 w3 w4 w5 w6 w7 w8
def wF3 (a t w0 w1 w2 w3 w4 w5 w6 w7 w8 : Addr) : Int32 := if a = t then 1 else wF4 w4 t w0 w1 w2 w3 w4 w5 w6 w7 w8
def wF0 (a t w0 w1 w2 w3 w4 w5 w6 w7 w8 : Addr) : Int32 := if a = t then 1 else 0
def wF7 (a t w0 w1 w2 w3 w4 w5 w6 w7 w8 : Addr) : Int32 := if a = t then 1 else 0
def wF8 (a t w0 w1 w2 w3 w4 w5 w6 w7 w8 : Addr) : Int32 := if a = t then 1 else 0
theorem own_wF4 (a t w0 w1 w2 w3 w4 w5 w6 w7 w8 : Addr) : nar .boolean (wF4 a t w0 w1 w2 w3 w4 w5 w6 w7 w8) = wF4 a t w0 w1 w2 w3 w4 w5 w6 w7 w8 := by
  unfold wF4; repeat' split
  all_goals rfl
theorem dW6_0 : decode prog_13_method_8_code 0 = .ok (.aload_n 0, 1) := by decide +kernel
theorem dW6_1 : decode prog_13_method_8_code 1 = .ok (.aload_n 1, 1) := by decide +kernel
theorem dW6_2 : decode prog_13_method_8_code 2 = .ok (.if_acmp .ne 5, 3) := by decide +kernel
theorem dW6_5 : decode prog_13_method_8_code 5 = .ok (.iconst 1, 1) := by decide +kernel
theorem dW6_6 : decode prog_13_method_8_code 6 = .ok (.ireturn, 1) := by decide +kernel
theorem dW6_7 : decode prog_13_method_8_code 7 = .ok (.aload_n 0, 1) := by decide +kernel
theorem dW6_8 : decode prog_13_method_8_code 8 = .ok (.invokevirtual 90, 3) := by decide +kernel
theorem dW6_11 : decode prog_13_method_8_code 11 = .ok (.tableswitch 127 1 6 #[37, 60, 60, 68, 91, 114], 37) := by decide +kernel
theorem dW6_125 : decode prog_13_method_8_code 125 = .ok (.aload_n 1, 1) := by decide +kernel
theorem dW6_126 : decode prog_13_method_8_code 126 = .ok (.getstatic 25, 3) := by decide +kernel
theorem dW6_129 : decode prog_13_method_8_code 129 = .ok (.if_acmp .ne 7, 3) := by decide +kernel
theorem dW6_132 : decode prog_13_method_8_code 132 = .ok (.iconst 1, 1) := by decide +kernel
theorem dW6_133 : decode prog_13_method_8_code 133 = .ok (.goto 4, 3) := by decide +kernel
theorem dW6_136 : decode prog_13_method_8_code 136 = .ok (.iconst 0, 1) := by decide +kernel
theorem dW6_137 : decode prog_13_method_8_code 137 = .ok (.ireturn, 1) := by decide +kernel
theorem pnW6 : plainName "com/example/whisker/whisker/PrimitiveType" = true := by first | (simp [plainName, overriddenIn]; done) | decide +kernel
theorem pdW6_0 : parseMethodDescriptor "()I" = some ⟨[], some .int⟩ := by decide +kernel
theorem efW6 (m : MethodId) (a1 : Addr) (a2 : Addr) : entryFrame m #[(.ref a1), (.ref a2)] 2 = mkF m 0 #[.val (.ref a1), .val (.ref a2)] [] := by first | (simp [entryFrame, mkF, argsToLocals, Value.category]; done) | rfl
def QW6 (Z : State) (a1 : Addr) (a2 : Addr) (w0 : Addr) (w1 : Addr) (w2 : Addr) (w3 : Addr) (w4 : Addr) (w5 : Addr) (w6 : Addr) (w7 : Addr) (w8 : Addr) (r : Int32) (h0 : Heap) (n0 : Nat) (v : Option Value) (h : Heap) (L : List Loc) : Prop := v = some (.int r) ∧ Fr n0 L ∧ h = h0
set_option maxRecDepth 65536 in
set_option maxHeartbeats 40000000 in
theorem rmW6 (l : Launch) (Z : State) (a0 : Array Value) (hw : ∀ d ∈ tables_1, d.before a0 Z = true) (ws : List Jvm.Cond) (a1 : Addr) (a2 : Addr) (w0 : Addr) (w1 : Addr) (w2 : Addr) (w3 : Addr) (w4 : Addr) (w5 : Addr) (w6 : Addr) (w7 : Addr) (w8 : Addr) (r : Int32) (h0 : Heap) (n0 : Nat) (Z0 : n0 ≤ h0.size) (S0 : Sta Z h0 "com/example/whisker/whisker/PrimitiveType" "BOOLEAN" "Lcom/example/whisker/whisker/PrimitiveType;" (.ref w0)) (S1 : Sta Z h0 "com/example/whisker/whisker/PrimitiveType" "BYTE" "Lcom/example/whisker/whisker/PrimitiveType;" (.ref w1)) (S2 : Sta Z h0 "com/example/whisker/whisker/PrimitiveType" "SHORT" "Lcom/example/whisker/whisker/PrimitiveType;" (.ref w2)) (S3 : Sta Z h0 "com/example/whisker/whisker/PrimitiveType" "CHAR" "Lcom/example/whisker/whisker/PrimitiveType;" (.ref w3)) (S4 : Sta Z h0 "com/example/whisker/whisker/PrimitiveType" "INT" "Lcom/example/whisker/whisker/PrimitiveType;" (.ref w4)) (S5 : Sta Z h0 "com/example/whisker/whisker/PrimitiveType" "LONG" "Lcom/example/whisker/whisker/PrimitiveType;" (.ref w5)) (S6 : Sta Z h0 "com/example/whisker/whisker/PrimitiveType" "FLOAT" "Lcom/example/whisker/whisker/PrimitiveType;" (.ref w6)) (S7 : Sta Z h0 "com/example/whisker/whisker/PrimitiveType" "DOUBLE" "Lcom/example/whisker/whisker/PrimitiveType;" (.ref w7)) (S8 : Sta Z h0 "com/example/whisker/whisker/PrimitiveType" "VOID" "Lcom/example/whisker/whisker/PrimitiveType;" (.ref w8)) (E1 : Exa Z h0 a1 "com/example/whisker/whisker/PrimitiveType") (F1 : Fld Z h0 a1 "java/lang/Enum" "ordinal" "I" (.int 6)) (E4 : Exa Z h0 w4 "com/example/whisker/whisker/PrimitiveType") (E5 : Exa Z h0 w5 "com/example/whisker/whisker/PrimitiveType") (E6 : Exa Z h0 w6 "com/example/whisker/whisker/PrimitiveType") (F4 : Fld Z h0 w4 "java/lang/Enum" "ordinal" "I" (.int 4)) (F5 : Fld Z h0 w5 "java/lang/Enum" "ordinal" "I" (.int 5)) (F6 : Fld Z h0 w6 "java/lang/Enum" "ordinal" "I" (.int 6)) (hR : wF6 a1 a2 w0 w1 w2 w3 w4 w5 w6 w7 w8 = r) :
    MetFree l (⟨"com/example/whisker/whisker/PrimitiveType", "widensTo", "(Lcom/example/whisker/whisker/PrimitiveType;)Z"⟩ : MethodName) (head1 (Jvm.Cond.code (⟨"com/example/whisker/whisker/PrimitiveType", "widensTo", "(Lcom/example/whisker/whisker/PrimitiveType;)Z"⟩ : MethodName) prog_13_method_8_code 2 (some .boolean) :: ws) ({ frames := 1, cells := 0, slots := 0, locals := 12 } : Room)) (fun a U => a = #[(.ref a1), (.ref a2)] ∧ Z.Warmed39 U.vm ∧ U.heap = h0) (fun _ _ _ _ _ => True) (fun _ U o U' => ∃ v L, o = .returned v ∧ QW6 Z a1 a2 w0 w1 w2 w3 w4 w5 w6 w7 w8 r h0 n0 v U'.heap L ∧ FrameEnd U o U' L ({ frames := 1, cells := 0, slots := 0, locals := 12 } : Room).cells ({ frames := 1, cells := 0, slots := 0, locals := 12 } : Room).slots) := by
  refine MetFree.of_bodySF (plainFor_of_name pnW6) hisR ?_
  intro p e s m args below meth c s₁ Bd hml0 hP hK
  obtain ⟨rfl, hZ, hh⟩ := hP
  have hx := Bd.exec
  have hby := Bd.bytes
  have hml : c.maxLocals = 2 := hml0
  have hown : s.vm.findClass "com/example/whisker/whisker/PrimitiveType" = some m.cls := findClass_of_methodNamed Bd.named
  have hnm := (name_of_methodNamed Bd.named Bd.method).1
  have X0 : Stand p l e ({ frames := 1, cells := 0, slots := 0, locals := 12 } : Room) s m #[(.ref a1), (.ref a2)] below meth c s₁ [] 0 0 := Stand.of_body Bd
  have e0 : s₁.heap = h0 := by rw [← hh, Bd.state]; rfl
  have N0 := Fr.nil n0
  have pre0 : Go p e below s₁ (mkF m 0 #[.val (.ref a1), .val (.ref a2)] []) s₁ (entryFrame m #[(.ref a1), (.ref a2)] 2) := fun t k => castTop (efW6 m a1 a2) k
  have pre1 : Go p e below s₁ (mkF m 2 #[.val (.ref a1), .val (.ref a2)] [(.ref a2), (.ref a1)]) s₁ (entryFrame m #[(.ref a1), (.ref a2)] 2) := fun t k => pre0 t (by
      show Steps p.tables e below (s₁.setTop (mkF m 0 #[.val (.ref a1), .val (.ref a2)] [])) t
      refine XS.aloadN X0.here hx rfl (hb hby dW6_0) rfl rfl ?_
      show Steps p.tables e below (s₁.setTop (mkF m 1 #[.val (.ref a1), .val (.ref a2)] [(.ref a1)])) t
      refine XS.aloadN X0.here hx rfl (hb hby dW6_1) rfl rfl ?_
      exact k)
  by_cases ha2 : a1 = a2
  · have pre2 : Go p e below s₁ (mkF m 5 #[.val (.ref a1), .val (.ref a2)] []) s₁ (entryFrame m #[(.ref a1), (.ref a2)] 2) := fun t k => pre1 t (Jvm.RoadKit.acmp (g := (mkF m 2 #[.val (.ref a1), .val (.ref a2)] [(.ref a2), (.ref a1)])) X0 hx rfl rfl rfl (pc0 := 2) (pc' := 5) (same := true) rfl (hb hby dW6_2) rfl (decide_eq_true (congrArg Value.ref ha2)) (by decide) (by decide) k)
    have pre3 : Go p e below s₁ (mkF m 6 #[.val (.ref a1), .val (.ref a2)] [(.int (1 : Int32))]) s₁ (entryFrame m #[(.ref a1), (.ref a2)] 2) := fun t k => pre2 t (by
        show Steps p.tables e below (s₁.setTop (mkF m 5 #[.val (.ref a1), .val (.ref a2)] [])) t
        refine XS.iconst X0.here hx rfl (hb hby dW6_5) ?_
        exact k)
    have hnr : Value.int (nar .boolean (1 : Int32)) = (.int (1 : Int32)) := by rfl
    obtain ⟨fs, hr, hrun, hended, hW, hsame⟩ := X0.leave (v := some (.int (1 : Int32))) (fun h => by rw [Bd.returns] at h; cases h)
    refine ⟨_, _, pre3 _ (retN X0 hx (t := .boolean) Bd.returns (by simp) (hb hby dW6_6) (hnr ▸ hr)), hrun, hended, _, _, rfl, ?_, ⟨_, rfl⟩, hW, hsame.mono (by decide) (by decide)⟩
    show QW6 Z a1 a2 w0 w1 w2 w3 w4 w5 w6 w7 w8 r h0 n0 _ s₁.heap _
    rw [e0]
    exact ⟨by rw [← hR]; simp [wF6, ha2], N0, rfl⟩
  · have pre4 : Go p e below s₁ (mkF m 7 #[.val (.ref a1), .val (.ref a2)] []) s₁ (entryFrame m #[(.ref a1), (.ref a2)] 2) := fun t k => pre1 t (Jvm.RoadKit.acmp (g := (mkF m 2 #[.val (.ref a1), .val (.ref a2)] [(.ref a2), (.ref a1)])) X0 hx rfl rfl rfl (pc0 := 2) (pc' := 7) (same := false) rfl (hb hby dW6_2) rfl (decide_eq_false fun q => ha2 (Value.ref.inj q)) (by decide) (by decide) k)
    have pre5 : Go p e below s₁ (mkF m 8 #[.val (.ref a1), .val (.ref a2)] [(.ref a1)]) s₁ (entryFrame m #[(.ref a1), (.ref a2)] 2) := fun t k => pre4 t (by
        show Steps p.tables e below (s₁.setTop (mkF m 7 #[.val (.ref a1), .val (.ref a2)] [])) t
        refine XS.aloadN X0.here hx rfl (hb hby dW6_7) rfl rfl ?_
        exact k)
    obtain ⟨cq6, kq6, q6a, q6b, q6c⟩ := isOf hZ e0 E1
    obtain ⟨_, _, ⟨T6, L6, k6, n6⟩, -, X6, ⟨Lc6, hQ6, l6, y6, z6⟩, st6⟩ := X0.virtualBackUp hx (x := (⟨"com/example/whisker/whisker/PrimitiveType", "ordinal", "()I"⟩ : MethodName)) (y := (⟨"java/lang/Enum", "ordinal", "()I"⟩ : MethodName)) (owner := "java/lang/Enum") hown (mvT hZ (hw _ (List.mem_of_getElem? (i := 18) rfl))) (mvT hZ (hw _ (List.mem_of_getElem? (i := 19) rfl))) (mvT hZ (hw _ (List.mem_of_getElem? (i := 20) rfl))) (by decide) (mvT hZ (hw _ (List.mem_of_getElem? (i := 22) rfl))) (mvT hZ (hw _ (List.mem_of_getElem? (i := 21) rfl))) (backOf (W := 0) (rmO l Z a0 hw [] a1 (6 : Int32) h0 n0 Z0 F1) hZ (hw _ (List.mem_of_getElem? (i := 24) rfl)) (hw _ (List.mem_of_getElem? (i := 23) rfl)) (by decide) (by decide)) q6a q6c (g := (mkF m 8 #[.val (.ref a1), .val (.ref a2)] [(.ref a1)])) rfl (by rw [hml]; rfl) (Steps.refl _) (argsL := []) (rest := []) (lenOf pdW6_0 rfl) rfl (by show 2 * 0 + _ ≤ _; exact Nat.le_of_eq rfl) (hb hby dW6_8) (fun _ _ => ⟨rfl, e0, (by decide : 0 + 0 ≤ _), (by decide : 0 + 0 ≤ _)⟩)
    dsimp only [Pt.U, Pt.locs, Pt.cells, Pt.slots] at X6 l6 y6 z6 st6 hQ6
    subst l6 y6 z6
    obtain ⟨rfl, N6q, hq6⟩ := hQ6
    have N6 := Fr.app N0 N6q
    have pre7 : Go p e below T6 (mkF m 11 #[.val (.ref a1), .val (.ref a2)] [(.int (6 : Int32))]) s₁ (entryFrame m #[(.ref a1), (.ref a2)] 2) := fun t k => pre5 t (st6.trans k)
    have e6 : T6.heap = h0 := hq6
    have pre8 : Go p e below T6 (mkF m 126 #[.val (.ref a1), .val (.ref a2)] [(.ref a2)]) s₁ (entryFrame m #[(.ref a1), (.ref a2)] 2) := fun t k => pre7 t (by
        show Steps p.tables e below (T6.setTop (mkF m 11 #[.val (.ref a1), .val (.ref a2)] [(.int (6 : Int32))])) t
        refine XS.tswIn X6.here hx rfl (pc0 := 11) (pc' := 125) (o := 114) rfl (hb hby dW6_11) rfl (by decide) (by decide) (by decide) (by decide) ?_
        show Steps p.tables e below (T6.setTop (mkF m 125 #[.val (.ref a1), .val (.ref a2)] [])) t
        refine XS.aloadN X6.here hx rfl (hb hby dW6_125) rfl rfl ?_
        exact k)
    obtain ⟨T9, X9, e9, st9⟩ := getS2 X6 hx hZ hown (host := "") (Or.inl (hw _ (List.mem_of_getElem? (i := 34) rfl))) Via.refl e6 S7 (g := (mkF m 126 #[.val (.ref a1), .val (.ref a2)] [(.ref a2)])) rfl (hb hby dW6_126)
    have pre10 : Go p e below T9 (mkF m 129 #[.val (.ref a1), .val (.ref a2)] [(.ref w7), (.ref a2)]) s₁ (entryFrame m #[(.ref a1), (.ref a2)] 2) := fun t k => pre8 t (st9 t k)
    by_cases ha129 : a2 = w7
    · have pre11 : Go p e below T9 (mkF m 132 #[.val (.ref a1), .val (.ref a2)] []) s₁ (entryFrame m #[(.ref a1), (.ref a2)] 2) := fun t k => pre10 t (Jvm.RoadKit.acmp (g := (mkF m 129 #[.val (.ref a1), .val (.ref a2)] [(.ref w7), (.ref a2)])) X9 hx rfl rfl rfl (pc0 := 129) (pc' := 132) (same := true) rfl (hb hby dW6_129) rfl (decide_eq_true (congrArg Value.ref ha129)) (by decide) (by decide) k)
      have pre12 : Go p e below T9 (mkF m 137 #[.val (.ref a1), .val (.ref a2)] [(.int (1 : Int32))]) s₁ (entryFrame m #[(.ref a1), (.ref a2)] 2) := fun t k => pre11 t (by
          show Steps p.tables e below (T9.setTop (mkF m 132 #[.val (.ref a1), .val (.ref a2)] [])) t
          refine XS.iconst X9.here hx rfl (hb hby dW6_132) ?_
          show Steps p.tables e below (T9.setTop (mkF m 133 #[.val (.ref a1), .val (.ref a2)] [(.int (1 : Int32))])) t
          refine XS.goto X9.here hx rfl (pc0 := 133) (pc' := 137) rfl (hb hby dW6_133) (by decide) (by decide) ?_
          exact k)
      have hnr : Value.int (nar .boolean (1 : Int32)) = (.int (1 : Int32)) := by rfl
      obtain ⟨fs, hr, hrun, hended, hW, hsame⟩ := X9.leave (v := some (.int (1 : Int32))) (fun h => by rw [Bd.returns] at h; cases h)
      refine ⟨_, _, pre12 _ (retN X9 hx (t := .boolean) Bd.returns (by simp) (hb hby dW6_137) (hnr ▸ hr)), hrun, hended, _, _, rfl, ?_, ⟨_, rfl⟩, hW, hsame.mono (by decide) (by decide)⟩
      show QW6 Z a1 a2 w0 w1 w2 w3 w4 w5 w6 w7 w8 r h0 n0 _ T9.heap _
      rw [e9]
      exact ⟨by rw [← hR]; simp [wF6, ha2, ha129], N6, rfl⟩
    · have pre13 : Go p e below T9 (mkF m 136 #[.val (.ref a1), .val (.ref a2)] []) s₁ (entryFrame m #[(.ref a1), (.ref a2)] 2) := fun t k => pre10 t (Jvm.RoadKit.acmp (g := (mkF m 129 #[.val (.ref a1), .val (.ref a2)] [(.ref w7), (.ref a2)])) X9 hx rfl rfl rfl (pc0 := 129) (pc' := 136) (same := false) rfl (hb hby dW6_129) rfl (decide_eq_false fun q => ha129 (Value.ref.inj q)) (by decide) (by decide) k)
      have pre14 : Go p e below T9 (mkF m 137 #[.val (.ref a1), .val (.ref a2)] [(.int (0 : Int32))]) s₁ (entryFrame m #[(.ref a1), (.ref a2)] 2) := fun t k => pre13 t (by
          show Steps p.tables e below (T9.setTop (mkF m 136 #[.val (.ref a1), .val (.ref a2)] [])) t
          refine XS.iconst X9.here hx rfl (hb hby dW6_136) ?_
          exact k)
      have hnr : Value.int (nar .boolean (0 : Int32)) = (.int (0 : Int32)) := by rfl
      obtain ⟨fs, hr, hrun, hended, hW, hsame⟩ := X9.leave (v := some (.int (0 : Int32))) (fun h => by rw [Bd.returns] at h; cases h)
      refine ⟨_, _, pre14 _ (retN X9 hx (t := .boolean) Bd.returns (by simp) (hb hby dW6_137) (hnr ▸ hr)), hrun, hended, _, _, rfl, ?_, ⟨_, rfl⟩, hW, hsame.mono (by decide) (by decide)⟩
      show QW6 Z a1 a2 w0 w1 w2 w3 w4 w5 w6 w7 w8 r h0 n0 _ T9.heap _
      rw [e9]
      exact ⟨by rw [← hR]; simp [wF6, ha2, ha129], N6, rfl⟩
theorem dW5_0 : decode prog_13_method_8_code 0 = .ok (.aload_n 0, 1) := by decide +kernel
theorem dW5_1 : decode prog_13_method_8_code 1 = .ok (.aload_n 1, 1) := by decide +kernel
theorem dW5_2 : decode prog_13_method_8_code 2 = .ok (.if_acmp .ne 5, 3) := by decide +kernel
theorem dW5_5 : decode prog_13_method_8_code 5 = .ok (.iconst 1, 1) := by decide +kernel
theorem dW5_6 : decode prog_13_method_8_code 6 = .ok (.ireturn, 1) := by decide +kernel
theorem dW5_7 : decode prog_13_method_8_code 7 = .ok (.aload_n 0, 1) := by decide +kernel
theorem dW5_8 : decode prog_13_method_8_code 8 = .ok (.invokevirtual 90, 3) := by decide +kernel
theorem dW5_11 : decode prog_13_method_8_code 11 = .ok (.tableswitch 127 1 6 #[37, 60, 60, 68, 91, 114], 37) := by decide +kernel
theorem dW5_102 : decode prog_13_method_8_code 102 = .ok (.aload_n 1, 1) := by decide +kernel
theorem dW5_103 : decode prog_13_method_8_code 103 = .ok (.getstatic 22, 3) := by decide +kernel
theorem dW5_106 : decode prog_13_method_8_code 106 = .ok (.if_acmp .eq 13, 3) := by decide +kernel
theorem dW5_109 : decode prog_13_method_8_code 109 = .ok (.getstatic 22, 3) := by decide +kernel
theorem dW5_112 : decode prog_13_method_8_code 112 = .ok (.aload_n 1, 1) := by decide +kernel
theorem dW5_113 : decode prog_13_method_8_code 113 = .ok (.invokevirtual 94, 3) := by decide +kernel
theorem dW5_116 : decode prog_13_method_8_code 116 = .ok (.ifCond .eq 7, 3) := by decide +kernel
theorem dW5_119 : decode prog_13_method_8_code 119 = .ok (.iconst 1, 1) := by decide +kernel
theorem dW5_120 : decode prog_13_method_8_code 120 = .ok (.goto 4, 3) := by decide +kernel
theorem dW5_123 : decode prog_13_method_8_code 123 = .ok (.iconst 0, 1) := by decide +kernel
theorem dW5_124 : decode prog_13_method_8_code 124 = .ok (.ireturn, 1) := by decide +kernel
theorem pnW5 : plainName "com/example/whisker/whisker/PrimitiveType" = true := by first | (simp [plainName, overriddenIn]; done) | decide +kernel
theorem pdW5_0 : parseMethodDescriptor "()I" = some ⟨[], some .int⟩ := by decide +kernel
theorem pdW5_1 : parseMethodDescriptor "(Lcom/example/whisker/whisker/PrimitiveType;)Z" = some ⟨[(.object "com/example/whisker/whisker/PrimitiveType")], some .boolean⟩ := by decide +kernel
theorem efW5 (m : MethodId) (a1 : Addr) (a2 : Addr) : entryFrame m #[(.ref a1), (.ref a2)] 2 = mkF m 0 #[.val (.ref a1), .val (.ref a2)] [] := by first | (simp [entryFrame, mkF, argsToLocals, Value.category]; done) | rfl
def QW5 (Z : State) (a1 : Addr) (a2 : Addr) (w0 : Addr) (w1 : Addr) (w2 : Addr) (w3 : Addr) (w4 : Addr) (w5 : Addr) (w6 : Addr) (w7 : Addr) (w8 : Addr) (r : Int32) (h0 : Heap) (n0 : Nat) (v : Option Value) (h : Heap) (L : List Loc) : Prop := v = some (.int r) ∧ Fr n0 L ∧ h = h0
set_option maxRecDepth 65536 in
set_option maxHeartbeats 40000000 in
theorem rmW5 (l : Launch) (Z : State) (a0 : Array Value) (hw : ∀ d ∈ tables_1, d.before a0 Z = true) (ws : List Jvm.Cond) (a1 : Addr) (a2 : Addr) (w0 : Addr) (w1 : Addr) (w2 : Addr) (w3 : Addr) (w4 : Addr) (w5 : Addr) (w6 : Addr) (w7 : Addr) (w8 : Addr) (r : Int32) (h0 : Heap) (n0 : Nat) (Z0 : n0 ≤ h0.size) (S0 : Sta Z h0 "com/example/whisker/whisker/PrimitiveType" "BOOLEAN" "Lcom/example/whisker/whisker/PrimitiveType;" (.ref w0)) (S1 : Sta Z h0 "com/example/whisker/whisker/PrimitiveType" "BYTE" "Lcom/example/whisker/whisker/PrimitiveType;" (.ref w1)) (S2 : Sta Z h0 "com/example/whisker/whisker/PrimitiveType" "SHORT" "Lcom/example/whisker/whisker/PrimitiveType;" (.ref w2)) (S3 : Sta Z h0 "com/example/whisker/whisker/PrimitiveType" "CHAR" "Lcom/example/whisker/whisker/PrimitiveType;" (.ref w3)) (S4 : Sta Z h0 "com/example/whisker/whisker/PrimitiveType" "INT" "Lcom/example/whisker/whisker/PrimitiveType;" (.ref w4)) (S5 : Sta Z h0 "com/example/whisker/whisker/PrimitiveType" "LONG" "Lcom/example/whisker/whisker/PrimitiveType;" (.ref w5)) (S6 : Sta Z h0 "com/example/whisker/whisker/PrimitiveType" "FLOAT" "Lcom/example/whisker/whisker/PrimitiveType;" (.ref w6)) (S7 : Sta Z h0 "com/example/whisker/whisker/PrimitiveType" "DOUBLE" "Lcom/example/whisker/whisker/PrimitiveType;" (.ref w7)) (S8 : Sta Z h0 "com/example/whisker/whisker/PrimitiveType" "VOID" "Lcom/example/whisker/whisker/PrimitiveType;" (.ref w8)) (E1 : Exa Z h0 a1 "com/example/whisker/whisker/PrimitiveType") (F1 : Fld Z h0 a1 "java/lang/Enum" "ordinal" "I" (.int 5)) (E4 : Exa Z h0 w4 "com/example/whisker/whisker/PrimitiveType") (E5 : Exa Z h0 w5 "com/example/whisker/whisker/PrimitiveType") (E6 : Exa Z h0 w6 "com/example/whisker/whisker/PrimitiveType") (F4 : Fld Z h0 w4 "java/lang/Enum" "ordinal" "I" (.int 4)) (F5 : Fld Z h0 w5 "java/lang/Enum" "ordinal" "I" (.int 5)) (F6 : Fld Z h0 w6 "java/lang/Enum" "ordinal" "I" (.int 6)) (hR : wF5 a1 a2 w0 w1 w2 w3 w4 w5 w6 w7 w8 = r) :
    MetFree l (⟨"com/example/whisker/whisker/PrimitiveType", "widensTo", "(Lcom/example/whisker/whisker/PrimitiveType;)Z"⟩ : MethodName) (head1 (Jvm.Cond.code (⟨"com/example/whisker/whisker/PrimitiveType", "widensTo", "(Lcom/example/whisker/whisker/PrimitiveType;)Z"⟩ : MethodName) prog_13_method_8_code 2 (some .boolean) :: ws) ({ frames := 2, cells := 0, slots := 0, locals := 25 } : Room)) (fun a U => a = #[(.ref a1), (.ref a2)] ∧ Z.Warmed39 U.vm ∧ U.heap = h0) (fun _ _ _ _ _ => True) (fun _ U o U' => ∃ v L, o = .returned v ∧ QW5 Z a1 a2 w0 w1 w2 w3 w4 w5 w6 w7 w8 r h0 n0 v U'.heap L ∧ FrameEnd U o U' L ({ frames := 2, cells := 0, slots := 0, locals := 25 } : Room).cells ({ frames := 2, cells := 0, slots := 0, locals := 25 } : Room).slots) := by
  refine MetFree.of_bodySF (plainFor_of_name pnW5) hisR ?_
  intro p e s m args below meth c s₁ Bd hml0 hP hK
  obtain ⟨rfl, hZ, hh⟩ := hP
  have hx := Bd.exec
  have hby := Bd.bytes
  have hml : c.maxLocals = 2 := hml0
  have hown : s.vm.findClass "com/example/whisker/whisker/PrimitiveType" = some m.cls := findClass_of_methodNamed Bd.named
  have hnm := (name_of_methodNamed Bd.named Bd.method).1
  have X0 : Stand p l e ({ frames := 2, cells := 0, slots := 0, locals := 25 } : Room) s m #[(.ref a1), (.ref a2)] below meth c s₁ [] 0 0 := Stand.of_body Bd
  have e0 : s₁.heap = h0 := by rw [← hh, Bd.state]; rfl
  have N0 := Fr.nil n0
  have pre0 : Go p e below s₁ (mkF m 0 #[.val (.ref a1), .val (.ref a2)] []) s₁ (entryFrame m #[(.ref a1), (.ref a2)] 2) := fun t k => castTop (efW5 m a1 a2) k
  have pre1 : Go p e below s₁ (mkF m 2 #[.val (.ref a1), .val (.ref a2)] [(.ref a2), (.ref a1)]) s₁ (entryFrame m #[(.ref a1), (.ref a2)] 2) := fun t k => pre0 t (by
      show Steps p.tables e below (s₁.setTop (mkF m 0 #[.val (.ref a1), .val (.ref a2)] [])) t
      refine XS.aloadN X0.here hx rfl (hb hby dW5_0) rfl rfl ?_
      show Steps p.tables e below (s₁.setTop (mkF m 1 #[.val (.ref a1), .val (.ref a2)] [(.ref a1)])) t
      refine XS.aloadN X0.here hx rfl (hb hby dW5_1) rfl rfl ?_
      exact k)
  by_cases ha2 : a1 = a2
  · have pre2 : Go p e below s₁ (mkF m 5 #[.val (.ref a1), .val (.ref a2)] []) s₁ (entryFrame m #[(.ref a1), (.ref a2)] 2) := fun t k => pre1 t (Jvm.RoadKit.acmp (g := (mkF m 2 #[.val (.ref a1), .val (.ref a2)] [(.ref a2), (.ref a1)])) X0 hx rfl rfl rfl (pc0 := 2) (pc' := 5) (same := true) rfl (hb hby dW5_2) rfl (decide_eq_true (congrArg Value.ref ha2)) (by decide) (by decide) k)
    have pre3 : Go p e below s₁ (mkF m 6 #[.val (.ref a1), .val (.ref a2)] [(.int (1 : Int32))]) s₁ (entryFrame m #[(.ref a1), (.ref a2)] 2) := fun t k => pre2 t (by
        show Steps p.tables e below (s₁.setTop (mkF m 5 #[.val (.ref a1), .val (.ref a2)] [])) t
        refine XS.iconst X0.here hx rfl (hb hby dW5_5) ?_
        exact k)
    have hnr : Value.int (nar .boolean (1 : Int32)) = (.int (1 : Int32)) := by rfl
    obtain ⟨fs, hr, hrun, hended, hW, hsame⟩ := X0.leave (v := some (.int (1 : Int32))) (fun h => by rw [Bd.returns] at h; cases h)
    refine ⟨_, _, pre3 _ (retN X0 hx (t := .boolean) Bd.returns (by simp) (hb hby dW5_6) (hnr ▸ hr)), hrun, hended, _, _, rfl, ?_, ⟨_, rfl⟩, hW, hsame.mono (by decide) (by decide)⟩
    show QW5 Z a1 a2 w0 w1 w2 w3 w4 w5 w6 w7 w8 r h0 n0 _ s₁.heap _
    rw [e0]
    exact ⟨by rw [← hR]; simp [wF5, ha2], N0, rfl⟩
  · have pre4 : Go p e below s₁ (mkF m 7 #[.val (.ref a1), .val (.ref a2)] []) s₁ (entryFrame m #[(.ref a1), (.ref a2)] 2) := fun t k => pre1 t (Jvm.RoadKit.acmp (g := (mkF m 2 #[.val (.ref a1), .val (.ref a2)] [(.ref a2), (.ref a1)])) X0 hx rfl rfl rfl (pc0 := 2) (pc' := 7) (same := false) rfl (hb hby dW5_2) rfl (decide_eq_false fun q => ha2 (Value.ref.inj q)) (by decide) (by decide) k)
    have pre5 : Go p e below s₁ (mkF m 8 #[.val (.ref a1), .val (.ref a2)] [(.ref a1)]) s₁ (entryFrame m #[(.ref a1), (.ref a2)] 2) := fun t k => pre4 t (by
        show Steps p.tables e below (s₁.setTop (mkF m 7 #[.val (.ref a1), .val (.ref a2)] [])) t
        refine XS.aloadN X0.here hx rfl (hb hby dW5_7) rfl rfl ?_
        exact k)
    obtain ⟨cq6, kq6, q6a, q6b, q6c⟩ := isOf hZ e0 E1
    obtain ⟨_, _, ⟨T6, L6, k6, n6⟩, -, X6, ⟨Lc6, hQ6, l6, y6, z6⟩, st6⟩ := X0.virtualBackUp hx (x := (⟨"com/example/whisker/whisker/PrimitiveType", "ordinal", "()I"⟩ : MethodName)) (y := (⟨"java/lang/Enum", "ordinal", "()I"⟩ : MethodName)) (owner := "java/lang/Enum") hown (mvT hZ (hw _ (List.mem_of_getElem? (i := 18) rfl))) (mvT hZ (hw _ (List.mem_of_getElem? (i := 19) rfl))) (mvT hZ (hw _ (List.mem_of_getElem? (i := 20) rfl))) (by decide) (mvT hZ (hw _ (List.mem_of_getElem? (i := 22) rfl))) (mvT hZ (hw _ (List.mem_of_getElem? (i := 21) rfl))) (backOf (W := 0) (rmO l Z a0 hw [] a1 (5 : Int32) h0 n0 Z0 F1) hZ (hw _ (List.mem_of_getElem? (i := 24) rfl)) (hw _ (List.mem_of_getElem? (i := 23) rfl)) (by decide) (by decide)) q6a q6c (g := (mkF m 8 #[.val (.ref a1), .val (.ref a2)] [(.ref a1)])) rfl (by rw [hml]; rfl) (Steps.refl _) (argsL := []) (rest := []) (lenOf pdW5_0 rfl) rfl (by show 2 * 0 + _ ≤ _; exact Nat.le_of_eq rfl) (hb hby dW5_8) (fun _ _ => ⟨rfl, e0, (by decide : 0 + 0 ≤ _), (by decide : 0 + 0 ≤ _)⟩)
    dsimp only [Pt.U, Pt.locs, Pt.cells, Pt.slots] at X6 l6 y6 z6 st6 hQ6
    subst l6 y6 z6
    obtain ⟨rfl, N6q, hq6⟩ := hQ6
    have N6 := Fr.app N0 N6q
    have pre7 : Go p e below T6 (mkF m 11 #[.val (.ref a1), .val (.ref a2)] [(.int (5 : Int32))]) s₁ (entryFrame m #[(.ref a1), (.ref a2)] 2) := fun t k => pre5 t (st6.trans k)
    have e6 : T6.heap = h0 := hq6
    have pre8 : Go p e below T6 (mkF m 103 #[.val (.ref a1), .val (.ref a2)] [(.ref a2)]) s₁ (entryFrame m #[(.ref a1), (.ref a2)] 2) := fun t k => pre7 t (by
        show Steps p.tables e below (T6.setTop (mkF m 11 #[.val (.ref a1), .val (.ref a2)] [(.int (5 : Int32))])) t
        refine XS.tswIn X6.here hx rfl (pc0 := 11) (pc' := 102) (o := 91) rfl (hb hby dW5_11) rfl (by decide) (by decide) (by decide) (by decide) ?_
        show Steps p.tables e below (T6.setTop (mkF m 102 #[.val (.ref a1), .val (.ref a2)] [])) t
        refine XS.aloadN X6.here hx rfl (hb hby dW5_102) rfl rfl ?_
        exact k)
    obtain ⟨T9, X9, e9, st9⟩ := getS2 X6 hx hZ hown (host := "") (Or.inl (hw _ (List.mem_of_getElem? (i := 31) rfl))) Via.refl e6 S6 (g := (mkF m 103 #[.val (.ref a1), .val (.ref a2)] [(.ref a2)])) rfl (hb hby dW5_103)
    have pre10 : Go p e below T9 (mkF m 106 #[.val (.ref a1), .val (.ref a2)] [(.ref w6), (.ref a2)]) s₁ (entryFrame m #[(.ref a1), (.ref a2)] 2) := fun t k => pre8 t (st9 t k)
    by_cases ha106 : a2 = w6
    · have pre11 : Go p e below T9 (mkF m 119 #[.val (.ref a1), .val (.ref a2)] []) s₁ (entryFrame m #[(.ref a1), (.ref a2)] 2) := fun t k => pre10 t (Jvm.RoadKit.acmp (g := (mkF m 106 #[.val (.ref a1), .val (.ref a2)] [(.ref w6), (.ref a2)])) X9 hx rfl rfl rfl (pc0 := 106) (pc' := 119) (same := true) rfl (hb hby dW5_106) rfl (decide_eq_true (congrArg Value.ref ha106)) (by decide) (by decide) k)
      have pre12 : Go p e below T9 (mkF m 124 #[.val (.ref a1), .val (.ref a2)] [(.int (1 : Int32))]) s₁ (entryFrame m #[(.ref a1), (.ref a2)] 2) := fun t k => pre11 t (by
          show Steps p.tables e below (T9.setTop (mkF m 119 #[.val (.ref a1), .val (.ref a2)] [])) t
          refine XS.iconst X9.here hx rfl (hb hby dW5_119) ?_
          show Steps p.tables e below (T9.setTop (mkF m 120 #[.val (.ref a1), .val (.ref a2)] [(.int (1 : Int32))])) t
          refine XS.goto X9.here hx rfl (pc0 := 120) (pc' := 124) rfl (hb hby dW5_120) (by decide) (by decide) ?_
          exact k)
      have hnr : Value.int (nar .boolean (1 : Int32)) = (.int (1 : Int32)) := by rfl
      obtain ⟨fs, hr, hrun, hended, hW, hsame⟩ := X9.leave (v := some (.int (1 : Int32))) (fun h => by rw [Bd.returns] at h; cases h)
      refine ⟨_, _, pre12 _ (retN X9 hx (t := .boolean) Bd.returns (by simp) (hb hby dW5_124) (hnr ▸ hr)), hrun, hended, _, _, rfl, ?_, ⟨_, rfl⟩, hW, hsame.mono (by decide) (by decide)⟩
      show QW5 Z a1 a2 w0 w1 w2 w3 w4 w5 w6 w7 w8 r h0 n0 _ T9.heap _
      rw [e9]
      exact ⟨by rw [← hR]; simp [wF5, ha2, ha106], N6, rfl⟩
    · have pre13 : Go p e below T9 (mkF m 109 #[.val (.ref a1), .val (.ref a2)] []) s₁ (entryFrame m #[(.ref a1), (.ref a2)] 2) := fun t k => pre10 t (Jvm.RoadKit.acmp (g := (mkF m 106 #[.val (.ref a1), .val (.ref a2)] [(.ref w6), (.ref a2)])) X9 hx rfl rfl rfl (pc0 := 106) (pc' := 109) (same := false) rfl (hb hby dW5_106) rfl (decide_eq_false fun q => ha106 (Value.ref.inj q)) (by decide) (by decide) k)
      obtain ⟨T14, X14, e14, st14⟩ := getS2 X9 hx hZ hown (host := "") (Or.inl (hw _ (List.mem_of_getElem? (i := 31) rfl))) Via.refl e9 S6 (g := (mkF m 109 #[.val (.ref a1), .val (.ref a2)] [])) rfl (hb hby dW5_109)
      have pre15 : Go p e below T14 (mkF m 112 #[.val (.ref a1), .val (.ref a2)] [(.ref w6)]) s₁ (entryFrame m #[(.ref a1), (.ref a2)] 2) := fun t k => pre13 t (st14 t k)
      have pre16 : Go p e below T14 (mkF m 113 #[.val (.ref a1), .val (.ref a2)] [(.ref a2), (.ref w6)]) s₁ (entryFrame m #[(.ref a1), (.ref a2)] 2) := fun t k => pre15 t (by
          show Steps p.tables e below (T14.setTop (mkF m 112 #[.val (.ref a1), .val (.ref a2)] [(.ref w6)])) t
          refine XS.aloadN X14.here hx rfl (hb hby dW5_112) rfl rfl ?_
          exact k)
      obtain ⟨cq17, kq17, q17a, q17b, q17c⟩ := isOf hZ e14 E6
      obtain ⟨_, _, ⟨T17, L17, k17, n17⟩, -, X17, ⟨Lc17, hQ17, l17, y17, z17⟩, st17⟩ := X14.virtualBack hx (y := (⟨"com/example/whisker/whisker/PrimitiveType", "widensTo", "(Lcom/example/whisker/whisker/PrimitiveType;)Z"⟩ : MethodName)) (z := (⟨"com/example/whisker/whisker/PrimitiveType", "widensTo", "(Lcom/example/whisker/whisker/PrimitiveType;)Z"⟩ : MethodName)) hown (mvT hZ (hw _ (List.mem_of_getElem? (i := 33) rfl))) (mvT hZ (hw _ (List.mem_of_getElem? (i := 14) rfl))) (notFace_of_selects (args := #[]) (mvT hZ (hw _ (List.mem_of_getElem? (i := 16) rfl)))) (mvT hZ (hw _ (List.mem_of_getElem? (i := 16) rfl))) (mvT hZ (hw _ (List.mem_of_getElem? (i := 15) rfl))) (by decide) (backOf (W := 0) (rmW6 l Z a0 hw [] w6 a2 w0 w1 w2 w3 w4 w5 w6 w7 w8 (wF6 w6 a2 w0 w1 w2 w3 w4 w5 w6 w7 w8) h0 n0 Z0 S0 S1 S2 S3 S4 S5 S6 S7 S8 E6 F6 E4 E5 E6 F4 F5 F6 rfl) hZ (hw _ (List.mem_of_getElem? (i := 17) rfl)) (hw _ (List.mem_of_getElem? (i := 6) rfl)) (by decide) (by decide)) q17a q17c (g := (mkF m 113 #[.val (.ref a1), .val (.ref a2)] [(.ref a2), (.ref w6)])) rfl (by rw [hml]; rfl) (Steps.refl _) (argsL := [(.ref a2)]) (rest := []) (lenOf pdW5_1 rfl) rfl (by show 2 * 0 + _ ≤ _; exact Nat.le_of_eq rfl) (hb hby dW5_113) (fun _ _ => ⟨rfl, e14, (by decide : 0 + 0 ≤ _), (by decide : 0 + 0 ≤ _)⟩)
      dsimp only [Pt.U, Pt.locs, Pt.cells, Pt.slots] at X17 l17 y17 z17 st17 hQ17
      subst l17 y17 z17
      obtain ⟨rfl, N17q, hq17⟩ := hQ17
      have N17 := Fr.app N6 N17q
      have pre18 : Go p e below T17 (mkF m 116 #[.val (.ref a1), .val (.ref a2)] [(.int (wF6 w6 a2 w0 w1 w2 w3 w4 w5 w6 w7 w8))]) s₁ (entryFrame m #[(.ref a1), (.ref a2)] 2) := fun t k => pre16 t (st17.trans k)
      have e17 : T17.heap = h0 := hq17
      by_cases hc116 : (wF6 w6 a2 w0 w1 w2 w3 w4 w5 w6 w7 w8) = (0 : Int32)
      · have pre19 : Go p e below T17 (mkF m 123 #[.val (.ref a1), .val (.ref a2)] []) s₁ (entryFrame m #[(.ref a1), (.ref a2)] 2) := fun t k => pre18 t (XS.ifYes X17.here hx rfl (pc0 := 116) (pc' := 123) rfl (hb hby dW5_116) rfl ((if0 _ _).trans (teq hc116).1) (by decide) (by decide) k)
        have pre20 : Go p e below T17 (mkF m 124 #[.val (.ref a1), .val (.ref a2)] [(.int (0 : Int32))]) s₁ (entryFrame m #[(.ref a1), (.ref a2)] 2) := fun t k => pre19 t (by
            show Steps p.tables e below (T17.setTop (mkF m 123 #[.val (.ref a1), .val (.ref a2)] [])) t
            refine XS.iconst X17.here hx rfl (hb hby dW5_123) ?_
            exact k)
        have hnr : Value.int (nar .boolean (0 : Int32)) = (.int (0 : Int32)) := by rfl
        obtain ⟨fs, hr, hrun, hended, hW, hsame⟩ := X17.leave (v := some (.int (0 : Int32))) (fun h => by rw [Bd.returns] at h; cases h)
        refine ⟨_, _, pre20 _ (retN X17 hx (t := .boolean) Bd.returns (by simp) (hb hby dW5_124) (hnr ▸ hr)), hrun, hended, _, _, rfl, ?_, ⟨_, rfl⟩, hW, hsame.mono (by decide) (by decide)⟩
        show QW5 Z a1 a2 w0 w1 w2 w3 w4 w5 w6 w7 w8 r h0 n0 _ T17.heap _
        rw [e17]
        exact ⟨by rw [← hR]; simp [wF5, ha2, ha106, hc116], N17, rfl⟩
      · have pre21 : Go p e below T17 (mkF m 119 #[.val (.ref a1), .val (.ref a2)] []) s₁ (entryFrame m #[(.ref a1), (.ref a2)] 2) := fun t k => pre18 t (XS.ifNo X17.here hx rfl (hb hby dW5_116) rfl ((if0 _ _).trans (feq hc116).1) k)
        have pre22 : Go p e below T17 (mkF m 124 #[.val (.ref a1), .val (.ref a2)] [(.int (1 : Int32))]) s₁ (entryFrame m #[(.ref a1), (.ref a2)] 2) := fun t k => pre21 t (by
            show Steps p.tables e below (T17.setTop (mkF m 119 #[.val (.ref a1), .val (.ref a2)] [])) t
            refine XS.iconst X17.here hx rfl (hb hby dW5_119) ?_
            show Steps p.tables e below (T17.setTop (mkF m 120 #[.val (.ref a1), .val (.ref a2)] [(.int (1 : Int32))])) t
            refine XS.goto X17.here hx rfl (pc0 := 120) (pc' := 124) rfl (hb hby dW5_120) (by decide) (by decide) ?_
            exact k)
        have hnr : Value.int (nar .boolean (1 : Int32)) = (.int (1 : Int32)) := by rfl
        obtain ⟨fs, hr, hrun, hended, hW, hsame⟩ := X17.leave (v := some (.int (1 : Int32))) (fun h => by rw [Bd.returns] at h; cases h)
        refine ⟨_, _, pre22 _ (retN X17 hx (t := .boolean) Bd.returns (by simp) (hb hby dW5_124) (hnr ▸ hr)), hrun, hended, _, _, rfl, ?_, ⟨_, rfl⟩, hW, hsame.mono (by decide) (by decide)⟩
        show QW5 Z a1 a2 w0 w1 w2 w3 w4 w5 w6 w7 w8 r h0 n0 _ T17.heap _
        rw [e17]
        exact ⟨by rw [← hR]; simp [wF5, ha2, ha106, hc116], N17, rfl⟩
theorem dW4_0 : decode prog_13_method_8_code 0 = .ok (.aload_n 0, 1) := by decide +kernel
theorem dW4_1 : decode prog_13_method_8_code 1 = .ok (.aload_n 1, 1) := by decide +kernel
theorem dW4_2 : decode prog_13_method_8_code 2 = .ok (.if_acmp .ne 5, 3) := by decide +kernel
theorem dW4_5 : decode prog_13_method_8_code 5 = .ok (.iconst 1, 1) := by decide +kernel
theorem dW4_6 : decode prog_13_method_8_code 6 = .ok (.ireturn, 1) := by decide +kernel
theorem dW4_7 : decode prog_13_method_8_code 7 = .ok (.aload_n 0, 1) := by decide +kernel
theorem dW4_8 : decode prog_13_method_8_code 8 = .ok (.invokevirtual 90, 3) := by decide +kernel
theorem dW4_11 : decode prog_13_method_8_code 11 = .ok (.tableswitch 127 1 6 #[37, 60, 60, 68, 91, 114], 37) := by decide +kernel
theorem dW4_79 : decode prog_13_method_8_code 79 = .ok (.aload_n 1, 1) := by decide +kernel
theorem dW4_80 : decode prog_13_method_8_code 80 = .ok (.getstatic 19, 3) := by decide +kernel
theorem dW4_83 : decode prog_13_method_8_code 83 = .ok (.if_acmp .eq 13, 3) := by decide +kernel
theorem dW4_86 : decode prog_13_method_8_code 86 = .ok (.getstatic 19, 3) := by decide +kernel
theorem dW4_89 : decode prog_13_method_8_code 89 = .ok (.aload_n 1, 1) := by decide +kernel
theorem dW4_90 : decode prog_13_method_8_code 90 = .ok (.invokevirtual 94, 3) := by decide +kernel
theorem dW4_93 : decode prog_13_method_8_code 93 = .ok (.ifCond .eq 7, 3) := by decide +kernel
theorem dW4_96 : decode prog_13_method_8_code 96 = .ok (.iconst 1, 1) := by decide +kernel
theorem dW4_97 : decode prog_13_method_8_code 97 = .ok (.goto 4, 3) := by decide +kernel
theorem dW4_100 : decode prog_13_method_8_code 100 = .ok (.iconst 0, 1) := by decide +kernel
theorem dW4_101 : decode prog_13_method_8_code 101 = .ok (.ireturn, 1) := by decide +kernel
theorem pnW4 : plainName "com/example/whisker/whisker/PrimitiveType" = true := by first | (simp [plainName, overriddenIn]; done) | decide +kernel
theorem pdW4_0 : parseMethodDescriptor "()I" = some ⟨[], some .int⟩ := by decide +kernel
theorem pdW4_1 : parseMethodDescriptor "(Lcom/example/whisker/whisker/PrimitiveType;)Z" = some ⟨[(.object "com/example/whisker/whisker/PrimitiveType")], some .boolean⟩ := by decide +kernel
theorem efW4 (m : MethodId) (a1 : Addr) (a2 : Addr) : entryFrame m #[(.ref a1), (.ref a2)] 2 = mkF m 0 #[.val (.ref a1), .val (.ref a2)] [] := by first | (simp [entryFrame, mkF, argsToLocals, Value.category]; done) | rfl
def QW4 (Z : State) (a1 : Addr) (a2 : Addr) (w0 : Addr) (w1 : Addr) (w2 : Addr) (w3 : Addr) (w4 : Addr) (w5 : Addr) (w6 : Addr) (w7 : Addr) (w8 : Addr) (r : Int32) (h0 : Heap) (n0 : Nat) (v : Option Value) (h : Heap) (L : List Loc) : Prop := v = some (.int r) ∧ Fr n0 L ∧ h = h0
set_option maxRecDepth 65536 in
set_option maxHeartbeats 40000000 in
theorem rmW4 (l : Launch) (Z : State) (a0 : Array Value) (hw : ∀ d ∈ tables_1, d.before a0 Z = true) (ws : List Jvm.Cond) (a1 : Addr) (a2 : Addr) (w0 : Addr) (w1 : Addr) (w2 : Addr) (w3 : Addr) (w4 : Addr) (w5 : Addr) (w6 : Addr) (w7 : Addr) (w8 : Addr) (r : Int32) (h0 : Heap) (n0 : Nat) (Z0 : n0 ≤ h0.size) (S0 : Sta Z h0 "com/example/whisker/whisker/PrimitiveType" "BOOLEAN" "Lcom/example/whisker/whisker/PrimitiveType;" (.ref w0)) (S1 : Sta Z h0 "com/example/whisker/whisker/PrimitiveType" "BYTE" "Lcom/example/whisker/whisker/PrimitiveType;" (.ref w1)) (S2 : Sta Z h0 "com/example/whisker/whisker/PrimitiveType" "SHORT" "Lcom/example/whisker/whisker/PrimitiveType;" (.ref w2)) (S3 : Sta Z h0 "com/example/whisker/whisker/PrimitiveType" "CHAR" "Lcom/example/whisker/whisker/PrimitiveType;" (.ref w3)) (S4 : Sta Z h0 "com/example/whisker/whisker/PrimitiveType" "INT" "Lcom/example/whisker/whisker/PrimitiveType;" (.ref w4)) (S5 : Sta Z h0 "com/example/whisker/whisker/PrimitiveType" "LONG" "Lcom/example/whisker/whisker/PrimitiveType;" (.ref w5)) (S6 : Sta Z h0 "com/example/whisker/whisker/PrimitiveType" "FLOAT" "Lcom/example/whisker/whisker/PrimitiveType;" (.ref w6)) (S7 : Sta Z h0 "com/example/whisker/whisker/PrimitiveType" "DOUBLE" "Lcom/example/whisker/whisker/PrimitiveType;" (.ref w7)) (S8 : Sta Z h0 "com/example/whisker/whisker/PrimitiveType" "VOID" "Lcom/example/whisker/whisker/PrimitiveType;" (.ref w8)) (E1 : Exa Z h0 a1 "com/example/whisker/whisker/PrimitiveType") (F1 : Fld Z h0 a1 "java/lang/Enum" "ordinal" "I" (.int 4)) (E4 : Exa Z h0 w4 "com/example/whisker/whisker/PrimitiveType") (E5 : Exa Z h0 w5 "com/example/whisker/whisker/PrimitiveType") (E6 : Exa Z h0 w6 "com/example/whisker/whisker/PrimitiveType") (F4 : Fld Z h0 w4 "java/lang/Enum" "ordinal" "I" (.int 4)) (F5 : Fld Z h0 w5 "java/lang/Enum" "ordinal" "I" (.int 5)) (F6 : Fld Z h0 w6 "java/lang/Enum" "ordinal" "I" (.int 6)) (hR : wF4 a1 a2 w0 w1 w2 w3 w4 w5 w6 w7 w8 = r) :
    MetFree l (⟨"com/example/whisker/whisker/PrimitiveType", "widensTo", "(Lcom/example/whisker/whisker/PrimitiveType;)Z"⟩ : MethodName) (head1 (Jvm.Cond.code (⟨"com/example/whisker/whisker/PrimitiveType", "widensTo", "(Lcom/example/whisker/whisker/PrimitiveType;)Z"⟩ : MethodName) prog_13_method_8_code 2 (some .boolean) :: ws) ({ frames := 3, cells := 0, slots := 0, locals := 38 } : Room)) (fun a U => a = #[(.ref a1), (.ref a2)] ∧ Z.Warmed39 U.vm ∧ U.heap = h0) (fun _ _ _ _ _ => True) (fun _ U o U' => ∃ v L, o = .returned v ∧ QW4 Z a1 a2 w0 w1 w2 w3 w4 w5 w6 w7 w8 r h0 n0 v U'.heap L ∧ FrameEnd U o U' L ({ frames := 3, cells := 0, slots := 0, locals := 38 } : Room).cells ({ frames := 3, cells := 0, slots := 0, locals := 38 } : Room).slots) := by
  refine MetFree.of_bodySF (plainFor_of_name pnW4) hisR ?_
  intro p e s m args below meth c s₁ Bd hml0 hP hK
  obtain ⟨rfl, hZ, hh⟩ := hP
  have hx := Bd.exec
  have hby := Bd.bytes
  have hml : c.maxLocals = 2 := hml0
  have hown : s.vm.findClass "com/example/whisker/whisker/PrimitiveType" = some m.cls := findClass_of_methodNamed Bd.named
  have hnm := (name_of_methodNamed Bd.named Bd.method).1
  have X0 : Stand p l e ({ frames := 3, cells := 0, slots := 0, locals := 38 } : Room) s m #[(.ref a1), (.ref a2)] below meth c s₁ [] 0 0 := Stand.of_body Bd
  have e0 : s₁.heap = h0 := by rw [← hh, Bd.state]; rfl
  have N0 := Fr.nil n0
  have pre0 : Go p e below s₁ (mkF m 0 #[.val (.ref a1), .val (.ref a2)] []) s₁ (entryFrame m #[(.ref a1), (.ref a2)] 2) := fun t k => castTop (efW4 m a1 a2) k
  have pre1 : Go p e below s₁ (mkF m 2 #[.val (.ref a1), .val (.ref a2)] [(.ref a2), (.ref a1)]) s₁ (entryFrame m #[(.ref a1), (.ref a2)] 2) := fun t k => pre0 t (by
      show Steps p.tables e below (s₁.setTop (mkF m 0 #[.val (.ref a1), .val (.ref a2)] [])) t
      refine XS.aloadN X0.here hx rfl (hb hby dW4_0) rfl rfl ?_
      show Steps p.tables e below (s₁.setTop (mkF m 1 #[.val (.ref a1), .val (.ref a2)] [(.ref a1)])) t
      refine XS.aloadN X0.here hx rfl (hb hby dW4_1) rfl rfl ?_
      exact k)
  by_cases ha2 : a1 = a2
  · have pre2 : Go p e below s₁ (mkF m 5 #[.val (.ref a1), .val (.ref a2)] []) s₁ (entryFrame m #[(.ref a1), (.ref a2)] 2) := fun t k => pre1 t (Jvm.RoadKit.acmp (g := (mkF m 2 #[.val (.ref a1), .val (.ref a2)] [(.ref a2), (.ref a1)])) X0 hx rfl rfl rfl (pc0 := 2) (pc' := 5) (same := true) rfl (hb hby dW4_2) rfl (decide_eq_true (congrArg Value.ref ha2)) (by decide) (by decide) k)
    have pre3 : Go p e below s₁ (mkF m 6 #[.val (.ref a1), .val (.ref a2)] [(.int (1 : Int32))]) s₁ (entryFrame m #[(.ref a1), (.ref a2)] 2) := fun t k => pre2 t (by
        show Steps p.tables e below (s₁.setTop (mkF m 5 #[.val (.ref a1), .val (.ref a2)] [])) t
        refine XS.iconst X0.here hx rfl (hb hby dW4_5) ?_
        exact k)
    have hnr : Value.int (nar .boolean (1 : Int32)) = (.int (1 : Int32)) := by rfl
    obtain ⟨fs, hr, hrun, hended, hW, hsame⟩ := X0.leave (v := some (.int (1 : Int32))) (fun h => by rw [Bd.returns] at h; cases h)
    refine ⟨_, _, pre3 _ (retN X0 hx (t := .boolean) Bd.returns (by simp) (hb hby dW4_6) (hnr ▸ hr)), hrun, hended, _, _, rfl, ?_, ⟨_, rfl⟩, hW, hsame.mono (by decide) (by decide)⟩
    show QW4 Z a1 a2 w0 w1 w2 w3 w4 w5 w6 w7 w8 r h0 n0 _ s₁.heap _
    rw [e0]
    exact ⟨by rw [← hR]; simp [wF4, ha2], N0, rfl⟩
  · have pre4 : Go p e below s₁ (mkF m 7 #[.val (.ref a1), .val (.ref a2)] []) s₁ (entryFrame m #[(.ref a1), (.ref a2)] 2) := fun t k => pre1 t (Jvm.RoadKit.acmp (g := (mkF m 2 #[.val (.ref a1), .val (.ref a2)] [(.ref a2), (.ref a1)])) X0 hx rfl rfl rfl (pc0 := 2) (pc' := 7) (same := false) rfl (hb hby dW4_2) rfl (decide_eq_false fun q => ha2 (Value.ref.inj q)) (by decide) (by decide) k)
    have pre5 : Go p e below s₁ (mkF m 8 #[.val (.ref a1), .val (.ref a2)] [(.ref a1)]) s₁ (entryFrame m #[(.ref a1), (.ref a2)] 2) := fun t k => pre4 t (by
        show Steps p.tables e below (s₁.setTop (mkF m 7 #[.val (.ref a1), .val (.ref a2)] [])) t
        refine XS.aloadN X0.here hx rfl (hb hby dW4_7) rfl rfl ?_
        exact k)
    obtain ⟨cq6, kq6, q6a, q6b, q6c⟩ := isOf hZ e0 E1
    obtain ⟨_, _, ⟨T6, L6, k6, n6⟩, -, X6, ⟨Lc6, hQ6, l6, y6, z6⟩, st6⟩ := X0.virtualBackUp hx (x := (⟨"com/example/whisker/whisker/PrimitiveType", "ordinal", "()I"⟩ : MethodName)) (y := (⟨"java/lang/Enum", "ordinal", "()I"⟩ : MethodName)) (owner := "java/lang/Enum") hown (mvT hZ (hw _ (List.mem_of_getElem? (i := 18) rfl))) (mvT hZ (hw _ (List.mem_of_getElem? (i := 19) rfl))) (mvT hZ (hw _ (List.mem_of_getElem? (i := 20) rfl))) (by decide) (mvT hZ (hw _ (List.mem_of_getElem? (i := 22) rfl))) (mvT hZ (hw _ (List.mem_of_getElem? (i := 21) rfl))) (backOf (W := 0) (rmO l Z a0 hw [] a1 (4 : Int32) h0 n0 Z0 F1) hZ (hw _ (List.mem_of_getElem? (i := 24) rfl)) (hw _ (List.mem_of_getElem? (i := 23) rfl)) (by decide) (by decide)) q6a q6c (g := (mkF m 8 #[.val (.ref a1), .val (.ref a2)] [(.ref a1)])) rfl (by rw [hml]; rfl) (Steps.refl _) (argsL := []) (rest := []) (lenOf pdW4_0 rfl) rfl (by show 2 * 0 + _ ≤ _; exact Nat.le_of_eq rfl) (hb hby dW4_8) (fun _ _ => ⟨rfl, e0, (by decide : 0 + 0 ≤ _), (by decide : 0 + 0 ≤ _)⟩)
    dsimp only [Pt.U, Pt.locs, Pt.cells, Pt.slots] at X6 l6 y6 z6 st6 hQ6
    subst l6 y6 z6
    obtain ⟨rfl, N6q, hq6⟩ := hQ6
    have N6 := Fr.app N0 N6q
    have pre7 : Go p e below T6 (mkF m 11 #[.val (.ref a1), .val (.ref a2)] [(.int (4 : Int32))]) s₁ (entryFrame m #[(.ref a1), (.ref a2)] 2) := fun t k => pre5 t (st6.trans k)
    have e6 : T6.heap = h0 := hq6
    have pre8 : Go p e below T6 (mkF m 80 #[.val (.ref a1), .val (.ref a2)] [(.ref a2)]) s₁ (entryFrame m #[(.ref a1), (.ref a2)] 2) := fun t k => pre7 t (by
        show Steps p.tables e below (T6.setTop (mkF m 11 #[.val (.ref a1), .val (.ref a2)] [(.int (4 : Int32))])) t
        refine XS.tswIn X6.here hx rfl (pc0 := 11) (pc' := 79) (o := 68) rfl (hb hby dW4_11) rfl (by decide) (by decide) (by decide) (by decide) ?_
        show Steps p.tables e below (T6.setTop (mkF m 79 #[.val (.ref a1), .val (.ref a2)] [])) t
        refine XS.aloadN X6.here hx rfl (hb hby dW4_79) rfl rfl ?_
        exact k)
    obtain ⟨T9, X9, e9, st9⟩ := getS2 X6 hx hZ hown (host := "") (Or.inl (hw _ (List.mem_of_getElem? (i := 40) rfl))) Via.refl e6 S5 (g := (mkF m 80 #[.val (.ref a1), .val (.ref a2)] [(.ref a2)])) rfl (hb hby dW4_80)
    have pre10 : Go p e below T9 (mkF m 83 #[.val (.ref a1), .val (.ref a2)] [(.ref w5), (.ref a2)]) s₁ (entryFrame m #[(.ref a1), (.ref a2)] 2) := fun t k => pre8 t (st9 t k)
    by_cases ha83 : a2 = w5
    · have pre11 : Go p e below T9 (mkF m 96 #[.val (.ref a1), .val (.ref a2)] []) s₁ (entryFrame m #[(.ref a1), (.ref a2)] 2) := fun t k => pre10 t (Jvm.RoadKit.acmp (g := (mkF m 83 #[.val (.ref a1), .val (.ref a2)] [(.ref w5), (.ref a2)])) X9 hx rfl rfl rfl (pc0 := 83) (pc' := 96) (same := true) rfl (hb hby dW4_83) rfl (decide_eq_true (congrArg Value.ref ha83)) (by decide) (by decide) k)
      have pre12 : Go p e below T9 (mkF m 101 #[.val (.ref a1), .val (.ref a2)] [(.int (1 : Int32))]) s₁ (entryFrame m #[(.ref a1), (.ref a2)] 2) := fun t k => pre11 t (by
          show Steps p.tables e below (T9.setTop (mkF m 96 #[.val (.ref a1), .val (.ref a2)] [])) t
          refine XS.iconst X9.here hx rfl (hb hby dW4_96) ?_
          show Steps p.tables e below (T9.setTop (mkF m 97 #[.val (.ref a1), .val (.ref a2)] [(.int (1 : Int32))])) t
          refine XS.goto X9.here hx rfl (pc0 := 97) (pc' := 101) rfl (hb hby dW4_97) (by decide) (by decide) ?_
          exact k)
      have hnr : Value.int (nar .boolean (1 : Int32)) = (.int (1 : Int32)) := by rfl
      obtain ⟨fs, hr, hrun, hended, hW, hsame⟩ := X9.leave (v := some (.int (1 : Int32))) (fun h => by rw [Bd.returns] at h; cases h)
      refine ⟨_, _, pre12 _ (retN X9 hx (t := .boolean) Bd.returns (by simp) (hb hby dW4_101) (hnr ▸ hr)), hrun, hended, _, _, rfl, ?_, ⟨_, rfl⟩, hW, hsame.mono (by decide) (by decide)⟩
      show QW4 Z a1 a2 w0 w1 w2 w3 w4 w5 w6 w7 w8 r h0 n0 _ T9.heap _
      rw [e9]
      exact ⟨by rw [← hR]; simp [wF4, ha2, ha83], N6, rfl⟩
    · have pre13 : Go p e below T9 (mkF m 86 #[.val (.ref a1), .val (.ref a2)] []) s₁ (entryFrame m #[(.ref a1), (.ref a2)] 2) := fun t k => pre10 t (Jvm.RoadKit.acmp (g := (mkF m 83 #[.val (.ref a1), .val (.ref a2)] [(.ref w5), (.ref a2)])) X9 hx rfl rfl rfl (pc0 := 83) (pc' := 86) (same := false) rfl (hb hby dW4_83) rfl (decide_eq_false fun q => ha83 (Value.ref.inj q)) (by decide) (by decide) k)
      obtain ⟨T14, X14, e14, st14⟩ := getS2 X9 hx hZ hown (host := "") (Or.inl (hw _ (List.mem_of_getElem? (i := 40) rfl))) Via.refl e9 S5 (g := (mkF m 86 #[.val (.ref a1), .val (.ref a2)] [])) rfl (hb hby dW4_86)
      have pre15 : Go p e below T14 (mkF m 89 #[.val (.ref a1), .val (.ref a2)] [(.ref w5)]) s₁ (entryFrame m #[(.ref a1), (.ref a2)] 2) := fun t k => pre13 t (st14 t k)
      have pre16 : Go p e below T14 (mkF m 90 #[.val (.ref a1), .val (.ref a2)] [(.ref a2), (.ref w5)]) s₁ (entryFrame m #[(.ref a1), (.ref a2)] 2) := fun t k => pre15 t (by
          show Steps p.tables e below (T14.setTop (mkF m 89 #[.val (.ref a1), .val (.ref a2)] [(.ref w5)])) t
          refine XS.aloadN X14.here hx rfl (hb hby dW4_89) rfl rfl ?_
          exact k)
      obtain ⟨cq17, kq17, q17a, q17b, q17c⟩ := isOf hZ e14 E5
      obtain ⟨_, _, ⟨T17, L17, k17, n17⟩, -, X17, ⟨Lc17, hQ17, l17, y17, z17⟩, st17⟩ := X14.virtualBack hx (y := (⟨"com/example/whisker/whisker/PrimitiveType", "widensTo", "(Lcom/example/whisker/whisker/PrimitiveType;)Z"⟩ : MethodName)) (z := (⟨"com/example/whisker/whisker/PrimitiveType", "widensTo", "(Lcom/example/whisker/whisker/PrimitiveType;)Z"⟩ : MethodName)) hown (mvT hZ (hw _ (List.mem_of_getElem? (i := 33) rfl))) (mvT hZ (hw _ (List.mem_of_getElem? (i := 14) rfl))) (notFace_of_selects (args := #[]) (mvT hZ (hw _ (List.mem_of_getElem? (i := 16) rfl)))) (mvT hZ (hw _ (List.mem_of_getElem? (i := 16) rfl))) (mvT hZ (hw _ (List.mem_of_getElem? (i := 15) rfl))) (by decide) (backOf (W := 0) (rmW5 l Z a0 hw [] w5 a2 w0 w1 w2 w3 w4 w5 w6 w7 w8 (wF5 w5 a2 w0 w1 w2 w3 w4 w5 w6 w7 w8) h0 n0 Z0 S0 S1 S2 S3 S4 S5 S6 S7 S8 E5 F5 E4 E5 E6 F4 F5 F6 rfl) hZ (hw _ (List.mem_of_getElem? (i := 17) rfl)) (hw _ (List.mem_of_getElem? (i := 6) rfl)) (by decide) (by decide)) q17a q17c (g := (mkF m 90 #[.val (.ref a1), .val (.ref a2)] [(.ref a2), (.ref w5)])) rfl (by rw [hml]; rfl) (Steps.refl _) (argsL := [(.ref a2)]) (rest := []) (lenOf pdW4_1 rfl) rfl (by show 2 * 0 + _ ≤ _; exact Nat.le_of_eq rfl) (hb hby dW4_90) (fun _ _ => ⟨rfl, e14, (by decide : 0 + 0 ≤ _), (by decide : 0 + 0 ≤ _)⟩)
      dsimp only [Pt.U, Pt.locs, Pt.cells, Pt.slots] at X17 l17 y17 z17 st17 hQ17
      subst l17 y17 z17
      obtain ⟨rfl, N17q, hq17⟩ := hQ17
      have N17 := Fr.app N6 N17q
      have pre18 : Go p e below T17 (mkF m 93 #[.val (.ref a1), .val (.ref a2)] [(.int (wF5 w5 a2 w0 w1 w2 w3 w4 w5 w6 w7 w8))]) s₁ (entryFrame m #[(.ref a1), (.ref a2)] 2) := fun t k => pre16 t (st17.trans k)
      have e17 : T17.heap = h0 := hq17
      by_cases hc93 : (wF5 w5 a2 w0 w1 w2 w3 w4 w5 w6 w7 w8) = (0 : Int32)
      · have pre19 : Go p e below T17 (mkF m 100 #[.val (.ref a1), .val (.ref a2)] []) s₁ (entryFrame m #[(.ref a1), (.ref a2)] 2) := fun t k => pre18 t (XS.ifYes X17.here hx rfl (pc0 := 93) (pc' := 100) rfl (hb hby dW4_93) rfl ((if0 _ _).trans (teq hc93).1) (by decide) (by decide) k)
        have pre20 : Go p e below T17 (mkF m 101 #[.val (.ref a1), .val (.ref a2)] [(.int (0 : Int32))]) s₁ (entryFrame m #[(.ref a1), (.ref a2)] 2) := fun t k => pre19 t (by
            show Steps p.tables e below (T17.setTop (mkF m 100 #[.val (.ref a1), .val (.ref a2)] [])) t
            refine XS.iconst X17.here hx rfl (hb hby dW4_100) ?_
            exact k)
        have hnr : Value.int (nar .boolean (0 : Int32)) = (.int (0 : Int32)) := by rfl
        obtain ⟨fs, hr, hrun, hended, hW, hsame⟩ := X17.leave (v := some (.int (0 : Int32))) (fun h => by rw [Bd.returns] at h; cases h)
        refine ⟨_, _, pre20 _ (retN X17 hx (t := .boolean) Bd.returns (by simp) (hb hby dW4_101) (hnr ▸ hr)), hrun, hended, _, _, rfl, ?_, ⟨_, rfl⟩, hW, hsame.mono (by decide) (by decide)⟩
        show QW4 Z a1 a2 w0 w1 w2 w3 w4 w5 w6 w7 w8 r h0 n0 _ T17.heap _
        rw [e17]
        exact ⟨by rw [← hR]; simp [wF4, ha2, ha83, hc93], N17, rfl⟩
      · have pre21 : Go p e below T17 (mkF m 96 #[.val (.ref a1), .val (.ref a2)] []) s₁ (entryFrame m #[(.ref a1), (.ref a2)] 2) := fun t k => pre18 t (XS.ifNo X17.here hx rfl (hb hby dW4_93) rfl ((if0 _ _).trans (feq hc93).1) k)
        have pre22 : Go p e below T17 (mkF m 101 #[.val (.ref a1), .val (.ref a2)] [(.int (1 : Int32))]) s₁ (entryFrame m #[(.ref a1), (.ref a2)] 2) := fun t k => pre21 t (by
            show Steps p.tables e below (T17.setTop (mkF m 96 #[.val (.ref a1), .val (.ref a2)] [])) t
            refine XS.iconst X17.here hx rfl (hb hby dW4_96) ?_
            show Steps p.tables e below (T17.setTop (mkF m 97 #[.val (.ref a1), .val (.ref a2)] [(.int (1 : Int32))])) t
            refine XS.goto X17.here hx rfl (pc0 := 97) (pc' := 101) rfl (hb hby dW4_97) (by decide) (by decide) ?_
            exact k)
        have hnr : Value.int (nar .boolean (1 : Int32)) = (.int (1 : Int32)) := by rfl
        obtain ⟨fs, hr, hrun, hended, hW, hsame⟩ := X17.leave (v := some (.int (1 : Int32))) (fun h => by rw [Bd.returns] at h; cases h)
        refine ⟨_, _, pre22 _ (retN X17 hx (t := .boolean) Bd.returns (by simp) (hb hby dW4_101) (hnr ▸ hr)), hrun, hended, _, _, rfl, ?_, ⟨_, rfl⟩, hW, hsame.mono (by decide) (by decide)⟩
        show QW4 Z a1 a2 w0 w1 w2 w3 w4 w5 w6 w7 w8 r h0 n0 _ T17.heap _
        rw [e17]
        exact ⟨by rw [← hR]; simp [wF4, ha2, ha83, hc93], N17, rfl⟩
theorem dV0_0 : decode prog_13_method_8_code 0 = .ok (.aload_n 0, 1) := by decide +kernel
theorem dV0_1 : decode prog_13_method_8_code 1 = .ok (.aload_n 1, 1) := by decide +kernel
theorem dV0_2 : decode prog_13_method_8_code 2 = .ok (.if_acmp .ne 5, 3) := by decide +kernel
theorem dV0_5 : decode prog_13_method_8_code 5 = .ok (.iconst 1, 1) := by decide +kernel
theorem dV0_6 : decode prog_13_method_8_code 6 = .ok (.ireturn, 1) := by decide +kernel
theorem dV0_7 : decode prog_13_method_8_code 7 = .ok (.aload_n 0, 1) := by decide +kernel
theorem dV0_8 : decode prog_13_method_8_code 8 = .ok (.invokevirtual 90, 3) := by decide +kernel
theorem dV0_11 : decode prog_13_method_8_code 11 = .ok (.tableswitch 127 1 6 #[37, 60, 60, 68, 91, 114], 37) := by decide +kernel
theorem dV0_138 : decode prog_13_method_8_code 138 = .ok (.iconst 0, 1) := by decide +kernel
theorem dV0_139 : decode prog_13_method_8_code 139 = .ok (.ireturn, 1) := by decide +kernel
theorem pnV0 : plainName "com/example/whisker/whisker/PrimitiveType" = true := by first | (simp [plainName, overriddenIn]; done) | decide +kernel
theorem pdV0_0 : parseMethodDescriptor "()I" = some ⟨[], some .int⟩ := by decide +kernel
theorem efV0 (m : MethodId) (a1 : Addr) (a2 : Addr) : entryFrame m #[(.ref a1), (.ref a2)] 2 = mkF m 0 #[.val (.ref a1), .val (.ref a2)] [] := by first | (simp [entryFrame, mkF, argsToLocals, Value.category]; done) | rfl
def QV0 (Z : State) (a1 : Addr) (a2 : Addr) (w0 : Addr) (w1 : Addr) (w2 : Addr) (w3 : Addr) (w4 : Addr) (w5 : Addr) (w6 : Addr) (w7 : Addr) (w8 : Addr) (r : Int32) (h0 : Heap) (n0 : Nat) (v : Option Value) (h : Heap) (L : List Loc) : Prop := v = some (.int r) ∧ Fr n0 L ∧ h = h0
set_option maxRecDepth 65536 in
set_option maxHeartbeats 40000000 in
theorem rmV0 (l : Launch) (Z : State) (a0 : Array Value) (hw : ∀ d ∈ tables_1, d.before a0 Z = true) (ws : List Jvm.Cond) (a1 : Addr) (a2 : Addr) (w0 : Addr) (w1 : Addr) (w2 : Addr) (w3 : Addr) (w4 : Addr) (w5 : Addr) (w6 : Addr) (w7 : Addr) (w8 : Addr) (r : Int32) (h0 : Heap) (n0 : Nat) (Z0 : n0 ≤ h0.size) (S0 : Sta Z h0 "com/example/whisker/whisker/PrimitiveType" "BOOLEAN" "Lcom/example/whisker/whisker/PrimitiveType;" (.ref w0)) (S1 : Sta Z h0 "com/example/whisker/whisker/PrimitiveType" "BYTE" "Lcom/example/whisker/whisker/PrimitiveType;" (.ref w1)) (S2 : Sta Z h0 "com/example/whisker/whisker/PrimitiveType" "SHORT" "Lcom/example/whisker/whisker/PrimitiveType;" (.ref w2)) (S3 : Sta Z h0 "com/example/whisker/whisker/PrimitiveType" "CHAR" "Lcom/example/whisker/whisker/PrimitiveType;" (.ref w3)) (S4 : Sta Z h0 "com/example/whisker/whisker/PrimitiveType" "INT" "Lcom/example/whisker/whisker/PrimitiveType;" (.ref w4)) (S5 : Sta Z h0 "com/example/whisker/whisker/PrimitiveType" "LONG" "Lcom/example/whisker/whisker/PrimitiveType;" (.ref w5)) (S6 : Sta Z h0 "com/example/whisker/whisker/PrimitiveType" "FLOAT" "Lcom/example/whisker/whisker/PrimitiveType;" (.ref w6)) (S7 : Sta Z h0 "com/example/whisker/whisker/PrimitiveType" "DOUBLE" "Lcom/example/whisker/whisker/PrimitiveType;" (.ref w7)) (S8 : Sta Z h0 "com/example/whisker/whisker/PrimitiveType" "VOID" "Lcom/example/whisker/whisker/PrimitiveType;" (.ref w8)) (E1 : Exa Z h0 a1 "com/example/whisker/whisker/PrimitiveType") (F1 : Fld Z h0 a1 "java/lang/Enum" "ordinal" "I" (.int 0)) (E4 : Exa Z h0 w4 "com/example/whisker/whisker/PrimitiveType") (E5 : Exa Z h0 w5 "com/example/whisker/whisker/PrimitiveType") (E6 : Exa Z h0 w6 "com/example/whisker/whisker/PrimitiveType") (F4 : Fld Z h0 w4 "java/lang/Enum" "ordinal" "I" (.int 4)) (F5 : Fld Z h0 w5 "java/lang/Enum" "ordinal" "I" (.int 5)) (F6 : Fld Z h0 w6 "java/lang/Enum" "ordinal" "I" (.int 6)) (hR : wF0 a1 a2 w0 w1 w2 w3 w4 w5 w6 w7 w8 = r) :
    MetFree l (⟨"com/example/whisker/whisker/PrimitiveType", "widensTo", "(Lcom/example/whisker/whisker/PrimitiveType;)Z"⟩ : MethodName) (head1 (Jvm.Cond.code (⟨"com/example/whisker/whisker/PrimitiveType", "widensTo", "(Lcom/example/whisker/whisker/PrimitiveType;)Z"⟩ : MethodName) prog_13_method_8_code 2 (some .boolean) :: ws) ({ frames := 4, cells := 0, slots := 0, locals := 90 } : Room)) (fun a U => a = #[(.ref a1), (.ref a2)] ∧ Z.Warmed39 U.vm ∧ U.heap = h0) (fun _ _ _ _ _ => True) (fun _ U o U' => ∃ v L, o = .returned v ∧ QV0 Z a1 a2 w0 w1 w2 w3 w4 w5 w6 w7 w8 r h0 n0 v U'.heap L ∧ FrameEnd U o U' L ({ frames := 4, cells := 0, slots := 0, locals := 90 } : Room).cells ({ frames := 4, cells := 0, slots := 0, locals := 90 } : Room).slots) := by
  refine MetFree.of_bodySF (plainFor_of_name pnV0) hisR ?_
  intro p e s m args below meth c s₁ Bd hml0 hP hK
  obtain ⟨rfl, hZ, hh⟩ := hP
  have hx := Bd.exec
  have hby := Bd.bytes
  have hml : c.maxLocals = 2 := hml0
  have hown : s.vm.findClass "com/example/whisker/whisker/PrimitiveType" = some m.cls := findClass_of_methodNamed Bd.named
  have hnm := (name_of_methodNamed Bd.named Bd.method).1
  have X0 : Stand p l e ({ frames := 4, cells := 0, slots := 0, locals := 90 } : Room) s m #[(.ref a1), (.ref a2)] below meth c s₁ [] 0 0 := Stand.of_body Bd
  have e0 : s₁.heap = h0 := by rw [← hh, Bd.state]; rfl
  have N0 := Fr.nil n0
  have pre0 : Go p e below s₁ (mkF m 0 #[.val (.ref a1), .val (.ref a2)] []) s₁ (entryFrame m #[(.ref a1), (.ref a2)] 2) := fun t k => castTop (efV0 m a1 a2) k
  have pre1 : Go p e below s₁ (mkF m 2 #[.val (.ref a1), .val (.ref a2)] [(.ref a2), (.ref a1)]) s₁ (entryFrame m #[(.ref a1), (.ref a2)] 2) := fun t k => pre0 t (by
      show Steps p.tables e below (s₁.setTop (mkF m 0 #[.val (.ref a1), .val (.ref a2)] [])) t
      refine XS.aloadN X0.here hx rfl (hb hby dV0_0) rfl rfl ?_
      show Steps p.tables e below (s₁.setTop (mkF m 1 #[.val (.ref a1), .val (.ref a2)] [(.ref a1)])) t
      refine XS.aloadN X0.here hx rfl (hb hby dV0_1) rfl rfl ?_
      exact k)
  by_cases ha2 : a1 = a2
  · have pre2 : Go p e below s₁ (mkF m 5 #[.val (.ref a1), .val (.ref a2)] []) s₁ (entryFrame m #[(.ref a1), (.ref a2)] 2) := fun t k => pre1 t (Jvm.RoadKit.acmp (g := (mkF m 2 #[.val (.ref a1), .val (.ref a2)] [(.ref a2), (.ref a1)])) X0 hx rfl rfl rfl (pc0 := 2) (pc' := 5) (same := true) rfl (hb hby dV0_2) rfl (decide_eq_true (congrArg Value.ref ha2)) (by decide) (by decide) k)
    have pre3 : Go p e below s₁ (mkF m 6 #[.val (.ref a1), .val (.ref a2)] [(.int (1 : Int32))]) s₁ (entryFrame m #[(.ref a1), (.ref a2)] 2) := fun t k => pre2 t (by
        show Steps p.tables e below (s₁.setTop (mkF m 5 #[.val (.ref a1), .val (.ref a2)] [])) t
        refine XS.iconst X0.here hx rfl (hb hby dV0_5) ?_
        exact k)
    have hnr : Value.int (nar .boolean (1 : Int32)) = (.int (1 : Int32)) := by rfl
    obtain ⟨fs, hr, hrun, hended, hW, hsame⟩ := X0.leave (v := some (.int (1 : Int32))) (fun h => by rw [Bd.returns] at h; cases h)
    refine ⟨_, _, pre3 _ (retN X0 hx (t := .boolean) Bd.returns (by simp) (hb hby dV0_6) (hnr ▸ hr)), hrun, hended, _, _, rfl, ?_, ⟨_, rfl⟩, hW, hsame.mono (by decide) (by decide)⟩
    show QV0 Z a1 a2 w0 w1 w2 w3 w4 w5 w6 w7 w8 r h0 n0 _ s₁.heap _
    rw [e0]
    exact ⟨by rw [← hR]; simp [wF0, ha2], N0, rfl⟩
  · have pre4 : Go p e below s₁ (mkF m 7 #[.val (.ref a1), .val (.ref a2)] []) s₁ (entryFrame m #[(.ref a1), (.ref a2)] 2) := fun t k => pre1 t (Jvm.RoadKit.acmp (g := (mkF m 2 #[.val (.ref a1), .val (.ref a2)] [(.ref a2), (.ref a1)])) X0 hx rfl rfl rfl (pc0 := 2) (pc' := 7) (same := false) rfl (hb hby dV0_2) rfl (decide_eq_false fun q => ha2 (Value.ref.inj q)) (by decide) (by decide) k)
    have pre5 : Go p e below s₁ (mkF m 8 #[.val (.ref a1), .val (.ref a2)] [(.ref a1)]) s₁ (entryFrame m #[(.ref a1), (.ref a2)] 2) := fun t k => pre4 t (by
        show Steps p.tables e below (s₁.setTop (mkF m 7 #[.val (.ref a1), .val (.ref a2)] [])) t
        refine XS.aloadN X0.here hx rfl (hb hby dV0_7) rfl rfl ?_
        exact k)
    obtain ⟨cq6, kq6, q6a, q6b, q6c⟩ := isOf hZ e0 E1
    obtain ⟨_, _, ⟨T6, L6, k6, n6⟩, -, X6, ⟨Lc6, hQ6, l6, y6, z6⟩, st6⟩ := X0.virtualBackUp hx (x := (⟨"com/example/whisker/whisker/PrimitiveType", "ordinal", "()I"⟩ : MethodName)) (y := (⟨"java/lang/Enum", "ordinal", "()I"⟩ : MethodName)) (owner := "java/lang/Enum") hown (mvT hZ (hw _ (List.mem_of_getElem? (i := 18) rfl))) (mvT hZ (hw _ (List.mem_of_getElem? (i := 19) rfl))) (mvT hZ (hw _ (List.mem_of_getElem? (i := 20) rfl))) (by decide) (mvT hZ (hw _ (List.mem_of_getElem? (i := 22) rfl))) (mvT hZ (hw _ (List.mem_of_getElem? (i := 21) rfl))) (backOf (W := 0) (rmO l Z a0 hw [] a1 (0 : Int32) h0 n0 Z0 F1) hZ (hw _ (List.mem_of_getElem? (i := 24) rfl)) (hw _ (List.mem_of_getElem? (i := 23) rfl)) (by decide) (by decide)) q6a q6c (g := (mkF m 8 #[.val (.ref a1), .val (.ref a2)] [(.ref a1)])) rfl (by rw [hml]; rfl) (Steps.refl _) (argsL := []) (rest := []) (lenOf pdV0_0 rfl) rfl (by show 2 * 0 + _ ≤ _; exact Nat.le_of_eq rfl) (hb hby dV0_8) (fun _ _ => ⟨rfl, e0, (by decide : 0 + 0 ≤ _), (by decide : 0 + 0 ≤ _)⟩)
    dsimp only [Pt.U, Pt.locs, Pt.cells, Pt.slots] at X6 l6 y6 z6 st6 hQ6
    subst l6 y6 z6
    obtain ⟨rfl, N6q, hq6⟩ := hQ6
    have N6 := Fr.app N0 N6q
    have pre7 : Go p e below T6 (mkF m 11 #[.val (.ref a1), .val (.ref a2)] [(.int (0 : Int32))]) s₁ (entryFrame m #[(.ref a1), (.ref a2)] 2) := fun t k => pre5 t (st6.trans k)
    have e6 : T6.heap = h0 := hq6
    have pre8 : Go p e below T6 (mkF m 139 #[.val (.ref a1), .val (.ref a2)] [(.int (0 : Int32))]) s₁ (entryFrame m #[(.ref a1), (.ref a2)] 2) := fun t k => pre7 t (by
        show Steps p.tables e below (T6.setTop (mkF m 11 #[.val (.ref a1), .val (.ref a2)] [(.int (0 : Int32))])) t
        refine XS.tswOut X6.here hx rfl (pc0 := 11) (pc' := 138) rfl (hb hby dV0_11) rfl (by decide) (by decide) (by decide) ?_
        show Steps p.tables e below (T6.setTop (mkF m 138 #[.val (.ref a1), .val (.ref a2)] [])) t
        refine XS.iconst X6.here hx rfl (hb hby dV0_138) ?_
        exact k)
    have hnr : Value.int (nar .boolean (0 : Int32)) = (.int (0 : Int32)) := by rfl
    obtain ⟨fs, hr, hrun, hended, hW, hsame⟩ := X6.leave (v := some (.int (0 : Int32))) (fun h => by rw [Bd.returns] at h; cases h)
    refine ⟨_, _, pre8 _ (retN X6 hx (t := .boolean) Bd.returns (by simp) (hb hby dV0_139) (hnr ▸ hr)), hrun, hended, _, _, rfl, ?_, ⟨_, rfl⟩, hW, hsame.mono (by decide) (by decide)⟩
    show QV0 Z a1 a2 w0 w1 w2 w3 w4 w5 w6 w7 w8 r h0 n0 _ T6.heap _
    rw [e6]
    exact ⟨by rw [← hR]; simp [wF0, ha2], N6, rfl⟩
theorem dV1_0 : decode prog_13_method_8_code 0 = .ok (.aload_n 0, 1) := by decide +kernel
theorem dV1_1 : decode prog_13_method_8_code 1 = .ok (.aload_n 1, 1) := by decide +kernel
theorem dV1_2 : decode prog_13_method_8_code 2 = .ok (.if_acmp .ne 5, 3) := by decide +kernel
theorem dV1_5 : decode prog_13_method_8_code 5 = .ok (.iconst 1, 1) := by decide +kernel
theorem dV1_6 : decode prog_13_method_8_code 6 = .ok (.ireturn, 1) := by decide +kernel
theorem dV1_7 : decode prog_13_method_8_code 7 = .ok (.aload_n 0, 1) := by decide +kernel
theorem dV1_8 : decode prog_13_method_8_code 8 = .ok (.invokevirtual 90, 3) := by decide +kernel
theorem dV1_11 : decode prog_13_method_8_code 11 = .ok (.tableswitch 127 1 6 #[37, 60, 60, 68, 91, 114], 37) := by decide +kernel
theorem dV1_48 : decode prog_13_method_8_code 48 = .ok (.aload_n 1, 1) := by decide +kernel
theorem dV1_49 : decode prog_13_method_8_code 49 = .ok (.getstatic 10, 3) := by decide +kernel
theorem dV1_52 : decode prog_13_method_8_code 52 = .ok (.if_acmp .eq 13, 3) := by decide +kernel
theorem dV1_55 : decode prog_13_method_8_code 55 = .ok (.getstatic 16, 3) := by decide +kernel
theorem dV1_58 : decode prog_13_method_8_code 58 = .ok (.aload_n 1, 1) := by decide +kernel
theorem dV1_59 : decode prog_13_method_8_code 59 = .ok (.invokevirtual 94, 3) := by decide +kernel
theorem dV1_62 : decode prog_13_method_8_code 62 = .ok (.ifCond .eq 7, 3) := by decide +kernel
theorem dV1_65 : decode prog_13_method_8_code 65 = .ok (.iconst 1, 1) := by decide +kernel
theorem dV1_66 : decode prog_13_method_8_code 66 = .ok (.goto 4, 3) := by decide +kernel
theorem dV1_69 : decode prog_13_method_8_code 69 = .ok (.iconst 0, 1) := by decide +kernel
theorem dV1_70 : decode prog_13_method_8_code 70 = .ok (.ireturn, 1) := by decide +kernel
theorem pnV1 : plainName "com/example/whisker/whisker/PrimitiveType" = true := by first | (simp [plainName, overriddenIn]; done) | decide +kernel
theorem pdV1_0 : parseMethodDescriptor "()I" = some ⟨[], some .int⟩ := by decide +kernel
theorem pdV1_1 : parseMethodDescriptor "(Lcom/example/whisker/whisker/PrimitiveType;)Z" = some ⟨[(.object "com/example/whisker/whisker/PrimitiveType")], some .boolean⟩ := by decide +kernel
theorem efV1 (m : MethodId) (a1 : Addr) (a2 : Addr) : entryFrame m #[(.ref a1), (.ref a2)] 2 = mkF m 0 #[.val (.ref a1), .val (.ref a2)] [] := by first | (simp [entryFrame, mkF, argsToLocals, Value.category]; done) | rfl
def QV1 (Z : State) (a1 : Addr) (a2 : Addr) (w0 : Addr) (w1 : Addr) (w2 : Addr) (w3 : Addr) (w4 : Addr) (w5 : Addr) (w6 : Addr) (w7 : Addr) (w8 : Addr) (r : Int32) (h0 : Heap) (n0 : Nat) (v : Option Value) (h : Heap) (L : List Loc) : Prop := v = some (.int r) ∧ Fr n0 L ∧ h = h0
set_option maxRecDepth 65536 in
set_option maxHeartbeats 40000000 in
theorem rmV1 (l : Launch) (Z : State) (a0 : Array Value) (hw : ∀ d ∈ tables_1, d.before a0 Z = true) (ws : List Jvm.Cond) (a1 : Addr) (a2 : Addr) (w0 : Addr) (w1 : Addr) (w2 : Addr) (w3 : Addr) (w4 : Addr) (w5 : Addr) (w6 : Addr) (w7 : Addr) (w8 : Addr) (r : Int32) (h0 : Heap) (n0 : Nat) (Z0 : n0 ≤ h0.size) (S0 : Sta Z h0 "com/example/whisker/whisker/PrimitiveType" "BOOLEAN" "Lcom/example/whisker/whisker/PrimitiveType;" (.ref w0)) (S1 : Sta Z h0 "com/example/whisker/whisker/PrimitiveType" "BYTE" "Lcom/example/whisker/whisker/PrimitiveType;" (.ref w1)) (S2 : Sta Z h0 "com/example/whisker/whisker/PrimitiveType" "SHORT" "Lcom/example/whisker/whisker/PrimitiveType;" (.ref w2)) (S3 : Sta Z h0 "com/example/whisker/whisker/PrimitiveType" "CHAR" "Lcom/example/whisker/whisker/PrimitiveType;" (.ref w3)) (S4 : Sta Z h0 "com/example/whisker/whisker/PrimitiveType" "INT" "Lcom/example/whisker/whisker/PrimitiveType;" (.ref w4)) (S5 : Sta Z h0 "com/example/whisker/whisker/PrimitiveType" "LONG" "Lcom/example/whisker/whisker/PrimitiveType;" (.ref w5)) (S6 : Sta Z h0 "com/example/whisker/whisker/PrimitiveType" "FLOAT" "Lcom/example/whisker/whisker/PrimitiveType;" (.ref w6)) (S7 : Sta Z h0 "com/example/whisker/whisker/PrimitiveType" "DOUBLE" "Lcom/example/whisker/whisker/PrimitiveType;" (.ref w7)) (S8 : Sta Z h0 "com/example/whisker/whisker/PrimitiveType" "VOID" "Lcom/example/whisker/whisker/PrimitiveType;" (.ref w8)) (E1 : Exa Z h0 a1 "com/example/whisker/whisker/PrimitiveType") (F1 : Fld Z h0 a1 "java/lang/Enum" "ordinal" "I" (.int 1)) (E4 : Exa Z h0 w4 "com/example/whisker/whisker/PrimitiveType") (E5 : Exa Z h0 w5 "com/example/whisker/whisker/PrimitiveType") (E6 : Exa Z h0 w6 "com/example/whisker/whisker/PrimitiveType") (F4 : Fld Z h0 w4 "java/lang/Enum" "ordinal" "I" (.int 4)) (F5 : Fld Z h0 w5 "java/lang/Enum" "ordinal" "I" (.int 5)) (F6 : Fld Z h0 w6 "java/lang/Enum" "ordinal" "I" (.int 6)) (hR : wF1 a1 a2 w0 w1 w2 w3 w4 w5 w6 w7 w8 = r) :
    MetFree l (⟨"com/example/whisker/whisker/PrimitiveType", "widensTo", "(Lcom/example/whisker/whisker/PrimitiveType;)Z"⟩ : MethodName) (head1 (Jvm.Cond.code (⟨"com/example/whisker/whisker/PrimitiveType", "widensTo", "(Lcom/example/whisker/whisker/PrimitiveType;)Z"⟩ : MethodName) prog_13_method_8_code 2 (some .boolean) :: ws) ({ frames := 4, cells := 0, slots := 0, locals := 90 } : Room)) (fun a U => a = #[(.ref a1), (.ref a2)] ∧ Z.Warmed39 U.vm ∧ U.heap = h0) (fun _ _ _ _ _ => True) (fun _ U o U' => ∃ v L, o = .returned v ∧ QV1 Z a1 a2 w0 w1 w2 w3 w4 w5 w6 w7 w8 r h0 n0 v U'.heap L ∧ FrameEnd U o U' L ({ frames := 4, cells := 0, slots := 0, locals := 90 } : Room).cells ({ frames := 4, cells := 0, slots := 0, locals := 90 } : Room).slots) := by
  refine MetFree.of_bodySF (plainFor_of_name pnV1) hisR ?_
  intro p e s m args below meth c s₁ Bd hml0 hP hK
  obtain ⟨rfl, hZ, hh⟩ := hP
  have hx := Bd.exec
  have hby := Bd.bytes
  have hml : c.maxLocals = 2 := hml0
  have hown : s.vm.findClass "com/example/whisker/whisker/PrimitiveType" = some m.cls := findClass_of_methodNamed Bd.named
  have hnm := (name_of_methodNamed Bd.named Bd.method).1
  have X0 : Stand p l e ({ frames := 4, cells := 0, slots := 0, locals := 90 } : Room) s m #[(.ref a1), (.ref a2)] below meth c s₁ [] 0 0 := Stand.of_body Bd
  have e0 : s₁.heap = h0 := by rw [← hh, Bd.state]; rfl
  have N0 := Fr.nil n0
  have pre0 : Go p e below s₁ (mkF m 0 #[.val (.ref a1), .val (.ref a2)] []) s₁ (entryFrame m #[(.ref a1), (.ref a2)] 2) := fun t k => castTop (efV1 m a1 a2) k
  have pre1 : Go p e below s₁ (mkF m 2 #[.val (.ref a1), .val (.ref a2)] [(.ref a2), (.ref a1)]) s₁ (entryFrame m #[(.ref a1), (.ref a2)] 2) := fun t k => pre0 t (by
      show Steps p.tables e below (s₁.setTop (mkF m 0 #[.val (.ref a1), .val (.ref a2)] [])) t
      refine XS.aloadN X0.here hx rfl (hb hby dV1_0) rfl rfl ?_
      show Steps p.tables e below (s₁.setTop (mkF m 1 #[.val (.ref a1), .val (.ref a2)] [(.ref a1)])) t
      refine XS.aloadN X0.here hx rfl (hb hby dV1_1) rfl rfl ?_
      exact k)
  by_cases ha2 : a1 = a2
  · have pre2 : Go p e below s₁ (mkF m 5 #[.val (.ref a1), .val (.ref a2)] []) s₁ (entryFrame m #[(.ref a1), (.ref a2)] 2) := fun t k => pre1 t (Jvm.RoadKit.acmp (g := (mkF m 2 #[.val (.ref a1), .val (.ref a2)] [(.ref a2), (.ref a1)])) X0 hx rfl rfl rfl (pc0 := 2) (pc' := 5) (same := true) rfl (hb hby dV1_2) rfl (decide_eq_true (congrArg Value.ref ha2)) (by decide) (by decide) k)
    have pre3 : Go p e below s₁ (mkF m 6 #[.val (.ref a1), .val (.ref a2)] [(.int (1 : Int32))]) s₁ (entryFrame m #[(.ref a1), (.ref a2)] 2) := fun t k => pre2 t (by
        show Steps p.tables e below (s₁.setTop (mkF m 5 #[.val (.ref a1), .val (.ref a2)] [])) t
        refine XS.iconst X0.here hx rfl (hb hby dV1_5) ?_
        exact k)
    have hnr : Value.int (nar .boolean (1 : Int32)) = (.int (1 : Int32)) := by rfl
    obtain ⟨fs, hr, hrun, hended, hW, hsame⟩ := X0.leave (v := some (.int (1 : Int32))) (fun h => by rw [Bd.returns] at h; cases h)
    refine ⟨_, _, pre3 _ (retN X0 hx (t := .boolean) Bd.returns (by simp) (hb hby dV1_6) (hnr ▸ hr)), hrun, hended, _, _, rfl, ?_, ⟨_, rfl⟩, hW, hsame.mono (by decide) (by decide)⟩
    show QV1 Z a1 a2 w0 w1 w2 w3 w4 w5 w6 w7 w8 r h0 n0 _ s₁.heap _
    rw [e0]
    exact ⟨by rw [← hR]; simp [wF1, ha2], N0, rfl⟩
  · have pre4 : Go p e below s₁ (mkF m 7 #[.val (.ref a1), .val (.ref a2)] []) s₁ (entryFrame m #[(.ref a1), (.ref a2)] 2) := fun t k => pre1 t (Jvm.RoadKit.acmp (g := (mkF m 2 #[.val (.ref a1), .val (.ref a2)] [(.ref a2), (.ref a1)])) X0 hx rfl rfl rfl (pc0 := 2) (pc' := 7) (same := false) rfl (hb hby dV1_2) rfl (decide_eq_false fun q => ha2 (Value.ref.inj q)) (by decide) (by decide) k)
    have pre5 : Go p e below s₁ (mkF m 8 #[.val (.ref a1), .val (.ref a2)] [(.ref a1)]) s₁ (entryFrame m #[(.ref a1), (.ref a2)] 2) := fun t k => pre4 t (by
        show Steps p.tables e below (s₁.setTop (mkF m 7 #[.val (.ref a1), .val (.ref a2)] [])) t
        refine XS.aloadN X0.here hx rfl (hb hby dV1_7) rfl rfl ?_
        exact k)
    obtain ⟨cq6, kq6, q6a, q6b, q6c⟩ := isOf hZ e0 E1
    obtain ⟨_, _, ⟨T6, L6, k6, n6⟩, -, X6, ⟨Lc6, hQ6, l6, y6, z6⟩, st6⟩ := X0.virtualBackUp hx (x := (⟨"com/example/whisker/whisker/PrimitiveType", "ordinal", "()I"⟩ : MethodName)) (y := (⟨"java/lang/Enum", "ordinal", "()I"⟩ : MethodName)) (owner := "java/lang/Enum") hown (mvT hZ (hw _ (List.mem_of_getElem? (i := 18) rfl))) (mvT hZ (hw _ (List.mem_of_getElem? (i := 19) rfl))) (mvT hZ (hw _ (List.mem_of_getElem? (i := 20) rfl))) (by decide) (mvT hZ (hw _ (List.mem_of_getElem? (i := 22) rfl))) (mvT hZ (hw _ (List.mem_of_getElem? (i := 21) rfl))) (backOf (W := 0) (rmO l Z a0 hw [] a1 (1 : Int32) h0 n0 Z0 F1) hZ (hw _ (List.mem_of_getElem? (i := 24) rfl)) (hw _ (List.mem_of_getElem? (i := 23) rfl)) (by decide) (by decide)) q6a q6c (g := (mkF m 8 #[.val (.ref a1), .val (.ref a2)] [(.ref a1)])) rfl (by rw [hml]; rfl) (Steps.refl _) (argsL := []) (rest := []) (lenOf pdV1_0 rfl) rfl (by show 2 * 0 + _ ≤ _; exact Nat.le_of_eq rfl) (hb hby dV1_8) (fun _ _ => ⟨rfl, e0, (by decide : 0 + 0 ≤ _), (by decide : 0 + 0 ≤ _)⟩)
    dsimp only [Pt.U, Pt.locs, Pt.cells, Pt.slots] at X6 l6 y6 z6 st6 hQ6
    subst l6 y6 z6
    obtain ⟨rfl, N6q, hq6⟩ := hQ6
    have N6 := Fr.app N0 N6q
    have pre7 : Go p e below T6 (mkF m 11 #[.val (.ref a1), .val (.ref a2)] [(.int (1 : Int32))]) s₁ (entryFrame m #[(.ref a1), (.ref a2)] 2) := fun t k => pre5 t (st6.trans k)
    have e6 : T6.heap = h0 := hq6
    have pre8 : Go p e below T6 (mkF m 49 #[.val (.ref a1), .val (.ref a2)] [(.ref a2)]) s₁ (entryFrame m #[(.ref a1), (.ref a2)] 2) := fun t k => pre7 t (by
        show Steps p.tables e below (T6.setTop (mkF m 11 #[.val (.ref a1), .val (.ref a2)] [(.int (1 : Int32))])) t
        refine XS.tswIn X6.here hx rfl (pc0 := 11) (pc' := 48) (o := 37) rfl (hb hby dV1_11) rfl (by decide) (by decide) (by decide) (by decide) ?_
        show Steps p.tables e below (T6.setTop (mkF m 48 #[.val (.ref a1), .val (.ref a2)] [])) t
        refine XS.aloadN X6.here hx rfl (hb hby dV1_48) rfl rfl ?_
        exact k)
    obtain ⟨T9, X9, e9, st9⟩ := getS2 X6 hx hZ hown (host := "") (Or.inl (hw _ (List.mem_of_getElem? (i := 41) rfl))) Via.refl e6 S2 (g := (mkF m 49 #[.val (.ref a1), .val (.ref a2)] [(.ref a2)])) rfl (hb hby dV1_49)
    have pre10 : Go p e below T9 (mkF m 52 #[.val (.ref a1), .val (.ref a2)] [(.ref w2), (.ref a2)]) s₁ (entryFrame m #[(.ref a1), (.ref a2)] 2) := fun t k => pre8 t (st9 t k)
    by_cases ha52 : a2 = w2
    · have pre11 : Go p e below T9 (mkF m 65 #[.val (.ref a1), .val (.ref a2)] []) s₁ (entryFrame m #[(.ref a1), (.ref a2)] 2) := fun t k => pre10 t (Jvm.RoadKit.acmp (g := (mkF m 52 #[.val (.ref a1), .val (.ref a2)] [(.ref w2), (.ref a2)])) X9 hx rfl rfl rfl (pc0 := 52) (pc' := 65) (same := true) rfl (hb hby dV1_52) rfl (decide_eq_true (congrArg Value.ref ha52)) (by decide) (by decide) k)
      have pre12 : Go p e below T9 (mkF m 70 #[.val (.ref a1), .val (.ref a2)] [(.int (1 : Int32))]) s₁ (entryFrame m #[(.ref a1), (.ref a2)] 2) := fun t k => pre11 t (by
          show Steps p.tables e below (T9.setTop (mkF m 65 #[.val (.ref a1), .val (.ref a2)] [])) t
          refine XS.iconst X9.here hx rfl (hb hby dV1_65) ?_
          show Steps p.tables e below (T9.setTop (mkF m 66 #[.val (.ref a1), .val (.ref a2)] [(.int (1 : Int32))])) t
          refine XS.goto X9.here hx rfl (pc0 := 66) (pc' := 70) rfl (hb hby dV1_66) (by decide) (by decide) ?_
          exact k)
      have hnr : Value.int (nar .boolean (1 : Int32)) = (.int (1 : Int32)) := by rfl
      obtain ⟨fs, hr, hrun, hended, hW, hsame⟩ := X9.leave (v := some (.int (1 : Int32))) (fun h => by rw [Bd.returns] at h; cases h)
      refine ⟨_, _, pre12 _ (retN X9 hx (t := .boolean) Bd.returns (by simp) (hb hby dV1_70) (hnr ▸ hr)), hrun, hended, _, _, rfl, ?_, ⟨_, rfl⟩, hW, hsame.mono (by decide) (by decide)⟩
      show QV1 Z a1 a2 w0 w1 w2 w3 w4 w5 w6 w7 w8 r h0 n0 _ T9.heap _
      rw [e9]
      exact ⟨by rw [← hR]; simp [wF1, ha2, ha52], N6, rfl⟩
    · have pre13 : Go p e below T9 (mkF m 55 #[.val (.ref a1), .val (.ref a2)] []) s₁ (entryFrame m #[(.ref a1), (.ref a2)] 2) := fun t k => pre10 t (Jvm.RoadKit.acmp (g := (mkF m 52 #[.val (.ref a1), .val (.ref a2)] [(.ref w2), (.ref a2)])) X9 hx rfl rfl rfl (pc0 := 52) (pc' := 55) (same := false) rfl (hb hby dV1_52) rfl (decide_eq_false fun q => ha52 (Value.ref.inj q)) (by decide) (by decide) k)
      obtain ⟨T14, X14, e14, st14⟩ := getS2 X9 hx hZ hown (host := "") (Or.inl (hw _ (List.mem_of_getElem? (i := 42) rfl))) Via.refl e9 S4 (g := (mkF m 55 #[.val (.ref a1), .val (.ref a2)] [])) rfl (hb hby dV1_55)
      have pre15 : Go p e below T14 (mkF m 58 #[.val (.ref a1), .val (.ref a2)] [(.ref w4)]) s₁ (entryFrame m #[(.ref a1), (.ref a2)] 2) := fun t k => pre13 t (st14 t k)
      have pre16 : Go p e below T14 (mkF m 59 #[.val (.ref a1), .val (.ref a2)] [(.ref a2), (.ref w4)]) s₁ (entryFrame m #[(.ref a1), (.ref a2)] 2) := fun t k => pre15 t (by
          show Steps p.tables e below (T14.setTop (mkF m 58 #[.val (.ref a1), .val (.ref a2)] [(.ref w4)])) t
          refine XS.aloadN X14.here hx rfl (hb hby dV1_58) rfl rfl ?_
          exact k)
      obtain ⟨cq17, kq17, q17a, q17b, q17c⟩ := isOf hZ e14 E4
      obtain ⟨_, _, ⟨T17, L17, k17, n17⟩, -, X17, ⟨Lc17, hQ17, l17, y17, z17⟩, st17⟩ := X14.virtualBack hx (y := (⟨"com/example/whisker/whisker/PrimitiveType", "widensTo", "(Lcom/example/whisker/whisker/PrimitiveType;)Z"⟩ : MethodName)) (z := (⟨"com/example/whisker/whisker/PrimitiveType", "widensTo", "(Lcom/example/whisker/whisker/PrimitiveType;)Z"⟩ : MethodName)) hown (mvT hZ (hw _ (List.mem_of_getElem? (i := 33) rfl))) (mvT hZ (hw _ (List.mem_of_getElem? (i := 14) rfl))) (notFace_of_selects (args := #[]) (mvT hZ (hw _ (List.mem_of_getElem? (i := 16) rfl)))) (mvT hZ (hw _ (List.mem_of_getElem? (i := 16) rfl))) (mvT hZ (hw _ (List.mem_of_getElem? (i := 15) rfl))) (by decide) (backOf (W := 0) (rmW4 l Z a0 hw [] w4 a2 w0 w1 w2 w3 w4 w5 w6 w7 w8 (wF4 w4 a2 w0 w1 w2 w3 w4 w5 w6 w7 w8) h0 n0 Z0 S0 S1 S2 S3 S4 S5 S6 S7 S8 E4 F4 E4 E5 E6 F4 F5 F6 rfl) hZ (hw _ (List.mem_of_getElem? (i := 17) rfl)) (hw _ (List.mem_of_getElem? (i := 6) rfl)) (by decide) (by decide)) q17a q17c (g := (mkF m 59 #[.val (.ref a1), .val (.ref a2)] [(.ref a2), (.ref w4)])) rfl (by rw [hml]; rfl) (Steps.refl _) (argsL := [(.ref a2)]) (rest := []) (lenOf pdV1_1 rfl) rfl (by show 2 * 0 + _ ≤ _; exact Nat.le_of_eq rfl) (hb hby dV1_59) (fun _ _ => ⟨rfl, e14, (by decide : 0 + 0 ≤ _), (by decide : 0 + 0 ≤ _)⟩)
      dsimp only [Pt.U, Pt.locs, Pt.cells, Pt.slots] at X17 l17 y17 z17 st17 hQ17
      subst l17 y17 z17
      obtain ⟨rfl, N17q, hq17⟩ := hQ17
      have N17 := Fr.app N6 N17q
      have pre18 : Go p e below T17 (mkF m 62 #[.val (.ref a1), .val (.ref a2)] [(.int (wF4 w4 a2 w0 w1 w2 w3 w4 w5 w6 w7 w8))]) s₁ (entryFrame m #[(.ref a1), (.ref a2)] 2) := fun t k => pre16 t (st17.trans k)
      have e17 : T17.heap = h0 := hq17
      by_cases hc62 : (wF4 w4 a2 w0 w1 w2 w3 w4 w5 w6 w7 w8) = (0 : Int32)
      · have pre19 : Go p e below T17 (mkF m 69 #[.val (.ref a1), .val (.ref a2)] []) s₁ (entryFrame m #[(.ref a1), (.ref a2)] 2) := fun t k => pre18 t (XS.ifYes X17.here hx rfl (pc0 := 62) (pc' := 69) rfl (hb hby dV1_62) rfl ((if0 _ _).trans (teq hc62).1) (by decide) (by decide) k)
        have pre20 : Go p e below T17 (mkF m 70 #[.val (.ref a1), .val (.ref a2)] [(.int (0 : Int32))]) s₁ (entryFrame m #[(.ref a1), (.ref a2)] 2) := fun t k => pre19 t (by
            show Steps p.tables e below (T17.setTop (mkF m 69 #[.val (.ref a1), .val (.ref a2)] [])) t
            refine XS.iconst X17.here hx rfl (hb hby dV1_69) ?_
            exact k)
        have hnr : Value.int (nar .boolean (0 : Int32)) = (.int (0 : Int32)) := by rfl
        obtain ⟨fs, hr, hrun, hended, hW, hsame⟩ := X17.leave (v := some (.int (0 : Int32))) (fun h => by rw [Bd.returns] at h; cases h)
        refine ⟨_, _, pre20 _ (retN X17 hx (t := .boolean) Bd.returns (by simp) (hb hby dV1_70) (hnr ▸ hr)), hrun, hended, _, _, rfl, ?_, ⟨_, rfl⟩, hW, hsame.mono (by decide) (by decide)⟩
        show QV1 Z a1 a2 w0 w1 w2 w3 w4 w5 w6 w7 w8 r h0 n0 _ T17.heap _
        rw [e17]
        exact ⟨by rw [← hR]; simp [wF1, ha2, ha52, hc62], N17, rfl⟩
      · have pre21 : Go p e below T17 (mkF m 65 #[.val (.ref a1), .val (.ref a2)] []) s₁ (entryFrame m #[(.ref a1), (.ref a2)] 2) := fun t k => pre18 t (XS.ifNo X17.here hx rfl (hb hby dV1_62) rfl ((if0 _ _).trans (feq hc62).1) k)
        have pre22 : Go p e below T17 (mkF m 70 #[.val (.ref a1), .val (.ref a2)] [(.int (1 : Int32))]) s₁ (entryFrame m #[(.ref a1), (.ref a2)] 2) := fun t k => pre21 t (by
            show Steps p.tables e below (T17.setTop (mkF m 65 #[.val (.ref a1), .val (.ref a2)] [])) t
            refine XS.iconst X17.here hx rfl (hb hby dV1_65) ?_
            show Steps p.tables e below (T17.setTop (mkF m 66 #[.val (.ref a1), .val (.ref a2)] [(.int (1 : Int32))])) t
            refine XS.goto X17.here hx rfl (pc0 := 66) (pc' := 70) rfl (hb hby dV1_66) (by decide) (by decide) ?_
            exact k)
        have hnr : Value.int (nar .boolean (1 : Int32)) = (.int (1 : Int32)) := by rfl
        obtain ⟨fs, hr, hrun, hended, hW, hsame⟩ := X17.leave (v := some (.int (1 : Int32))) (fun h => by rw [Bd.returns] at h; cases h)
        refine ⟨_, _, pre22 _ (retN X17 hx (t := .boolean) Bd.returns (by simp) (hb hby dV1_70) (hnr ▸ hr)), hrun, hended, _, _, rfl, ?_, ⟨_, rfl⟩, hW, hsame.mono (by decide) (by decide)⟩
        show QV1 Z a1 a2 w0 w1 w2 w3 w4 w5 w6 w7 w8 r h0 n0 _ T17.heap _
        rw [e17]
        exact ⟨by rw [← hR]; simp [wF1, ha2, ha52, hc62], N17, rfl⟩
theorem dV2_0 : decode prog_13_method_8_code 0 = .ok (.aload_n 0, 1) := by decide +kernel
theorem dV2_1 : decode prog_13_method_8_code 1 = .ok (.aload_n 1, 1) := by decide +kernel
theorem dV2_2 : decode prog_13_method_8_code 2 = .ok (.if_acmp .ne 5, 3) := by decide +kernel
theorem dV2_5 : decode prog_13_method_8_code 5 = .ok (.iconst 1, 1) := by decide +kernel
theorem dV2_6 : decode prog_13_method_8_code 6 = .ok (.ireturn, 1) := by decide +kernel
theorem dV2_7 : decode prog_13_method_8_code 7 = .ok (.aload_n 0, 1) := by decide +kernel
theorem dV2_8 : decode prog_13_method_8_code 8 = .ok (.invokevirtual 90, 3) := by decide +kernel
theorem dV2_11 : decode prog_13_method_8_code 11 = .ok (.tableswitch 127 1 6 #[37, 60, 60, 68, 91, 114], 37) := by decide +kernel
theorem dV2_71 : decode prog_13_method_8_code 71 = .ok (.getstatic 16, 3) := by decide +kernel
theorem dV2_74 : decode prog_13_method_8_code 74 = .ok (.aload_n 1, 1) := by decide +kernel
theorem dV2_75 : decode prog_13_method_8_code 75 = .ok (.invokevirtual 94, 3) := by decide +kernel
theorem dV2_78 : decode prog_13_method_8_code 78 = .ok (.ireturn, 1) := by decide +kernel
theorem pnV2 : plainName "com/example/whisker/whisker/PrimitiveType" = true := by first | (simp [plainName, overriddenIn]; done) | decide +kernel
theorem pdV2_0 : parseMethodDescriptor "()I" = some ⟨[], some .int⟩ := by decide +kernel
theorem pdV2_1 : parseMethodDescriptor "(Lcom/example/whisker/whisker/PrimitiveType;)Z" = some ⟨[(.object "com/example/whisker/whisker/PrimitiveType")], some .boolean⟩ := by decide +kernel
theorem efV2 (m : MethodId) (a1 : Addr) (a2 : Addr) : entryFrame m #[(.ref a1), (.ref a2)] 2 = mkF m 0 #[.val (.ref a1), .val (.ref a2)] [] := by first | (simp [entryFrame, mkF, argsToLocals, Value.category]; done) | rfl
def QV2 (Z : State) (a1 : Addr) (a2 : Addr) (w0 : Addr) (w1 : Addr) (w2 : Addr) (w3 : Addr) (w4 : Addr) (w5 : Addr) (w6 : Addr) (w7 : Addr) (w8 : Addr) (r : Int32) (h0 : Heap) (n0 : Nat) (v : Option Value) (h : Heap) (L : List Loc) : Prop := v = some (.int r) ∧ Fr n0 L ∧ h = h0
set_option maxRecDepth 65536 in
set_option maxHeartbeats 40000000 in
theorem rmV2 (l : Launch) (Z : State) (a0 : Array Value) (hw : ∀ d ∈ tables_1, d.before a0 Z = true) (ws : List Jvm.Cond) (a1 : Addr) (a2 : Addr) (w0 : Addr) (w1 : Addr) (w2 : Addr) (w3 : Addr) (w4 : Addr) (w5 : Addr) (w6 : Addr) (w7 : Addr) (w8 : Addr) (r : Int32) (h0 : Heap) (n0 : Nat) (Z0 : n0 ≤ h0.size) (S0 : Sta Z h0 "com/example/whisker/whisker/PrimitiveType" "BOOLEAN" "Lcom/example/whisker/whisker/PrimitiveType;" (.ref w0)) (S1 : Sta Z h0 "com/example/whisker/whisker/PrimitiveType" "BYTE" "Lcom/example/whisker/whisker/PrimitiveType;" (.ref w1)) (S2 : Sta Z h0 "com/example/whisker/whisker/PrimitiveType" "SHORT" "Lcom/example/whisker/whisker/PrimitiveType;" (.ref w2)) (S3 : Sta Z h0 "com/example/whisker/whisker/PrimitiveType" "CHAR" "Lcom/example/whisker/whisker/PrimitiveType;" (.ref w3)) (S4 : Sta Z h0 "com/example/whisker/whisker/PrimitiveType" "INT" "Lcom/example/whisker/whisker/PrimitiveType;" (.ref w4)) (S5 : Sta Z h0 "com/example/whisker/whisker/PrimitiveType" "LONG" "Lcom/example/whisker/whisker/PrimitiveType;" (.ref w5)) (S6 : Sta Z h0 "com/example/whisker/whisker/PrimitiveType" "FLOAT" "Lcom/example/whisker/whisker/PrimitiveType;" (.ref w6)) (S7 : Sta Z h0 "com/example/whisker/whisker/PrimitiveType" "DOUBLE" "Lcom/example/whisker/whisker/PrimitiveType;" (.ref w7)) (S8 : Sta Z h0 "com/example/whisker/whisker/PrimitiveType" "VOID" "Lcom/example/whisker/whisker/PrimitiveType;" (.ref w8)) (E1 : Exa Z h0 a1 "com/example/whisker/whisker/PrimitiveType") (F1 : Fld Z h0 a1 "java/lang/Enum" "ordinal" "I" (.int 2)) (E4 : Exa Z h0 w4 "com/example/whisker/whisker/PrimitiveType") (E5 : Exa Z h0 w5 "com/example/whisker/whisker/PrimitiveType") (E6 : Exa Z h0 w6 "com/example/whisker/whisker/PrimitiveType") (F4 : Fld Z h0 w4 "java/lang/Enum" "ordinal" "I" (.int 4)) (F5 : Fld Z h0 w5 "java/lang/Enum" "ordinal" "I" (.int 5)) (F6 : Fld Z h0 w6 "java/lang/Enum" "ordinal" "I" (.int 6)) (hR : wF2 a1 a2 w0 w1 w2 w3 w4 w5 w6 w7 w8 = r) :
    MetFree l (⟨"com/example/whisker/whisker/PrimitiveType", "widensTo", "(Lcom/example/whisker/whisker/PrimitiveType;)Z"⟩ : MethodName) (head1 (Jvm.Cond.code (⟨"com/example/whisker/whisker/PrimitiveType", "widensTo", "(Lcom/example/whisker/whisker/PrimitiveType;)Z"⟩ : MethodName) prog_13_method_8_code 2 (some .boolean) :: ws) ({ frames := 4, cells := 0, slots := 0, locals := 90 } : Room)) (fun a U => a = #[(.ref a1), (.ref a2)] ∧ Z.Warmed39 U.vm ∧ U.heap = h0) (fun _ _ _ _ _ => True) (fun _ U o U' => ∃ v L, o = .returned v ∧ QV2 Z a1 a2 w0 w1 w2 w3 w4 w5 w6 w7 w8 r h0 n0 v U'.heap L ∧ FrameEnd U o U' L ({ frames := 4, cells := 0, slots := 0, locals := 90 } : Room).cells ({ frames := 4, cells := 0, slots := 0, locals := 90 } : Room).slots) := by
  refine MetFree.of_bodySF (plainFor_of_name pnV2) hisR ?_
  intro p e s m args below meth c s₁ Bd hml0 hP hK
  obtain ⟨rfl, hZ, hh⟩ := hP
  have hx := Bd.exec
  have hby := Bd.bytes
  have hml : c.maxLocals = 2 := hml0
  have hown : s.vm.findClass "com/example/whisker/whisker/PrimitiveType" = some m.cls := findClass_of_methodNamed Bd.named
  have hnm := (name_of_methodNamed Bd.named Bd.method).1
  have X0 : Stand p l e ({ frames := 4, cells := 0, slots := 0, locals := 90 } : Room) s m #[(.ref a1), (.ref a2)] below meth c s₁ [] 0 0 := Stand.of_body Bd
  have e0 : s₁.heap = h0 := by rw [← hh, Bd.state]; rfl
  have N0 := Fr.nil n0
  have pre0 : Go p e below s₁ (mkF m 0 #[.val (.ref a1), .val (.ref a2)] []) s₁ (entryFrame m #[(.ref a1), (.ref a2)] 2) := fun t k => castTop (efV2 m a1 a2) k
  have pre1 : Go p e below s₁ (mkF m 2 #[.val (.ref a1), .val (.ref a2)] [(.ref a2), (.ref a1)]) s₁ (entryFrame m #[(.ref a1), (.ref a2)] 2) := fun t k => pre0 t (by
      show Steps p.tables e below (s₁.setTop (mkF m 0 #[.val (.ref a1), .val (.ref a2)] [])) t
      refine XS.aloadN X0.here hx rfl (hb hby dV2_0) rfl rfl ?_
      show Steps p.tables e below (s₁.setTop (mkF m 1 #[.val (.ref a1), .val (.ref a2)] [(.ref a1)])) t
      refine XS.aloadN X0.here hx rfl (hb hby dV2_1) rfl rfl ?_
      exact k)
  by_cases ha2 : a1 = a2
  · have pre2 : Go p e below s₁ (mkF m 5 #[.val (.ref a1), .val (.ref a2)] []) s₁ (entryFrame m #[(.ref a1), (.ref a2)] 2) := fun t k => pre1 t (Jvm.RoadKit.acmp (g := (mkF m 2 #[.val (.ref a1), .val (.ref a2)] [(.ref a2), (.ref a1)])) X0 hx rfl rfl rfl (pc0 := 2) (pc' := 5) (same := true) rfl (hb hby dV2_2) rfl (decide_eq_true (congrArg Value.ref ha2)) (by decide) (by decide) k)
    have pre3 : Go p e below s₁ (mkF m 6 #[.val (.ref a1), .val (.ref a2)] [(.int (1 : Int32))]) s₁ (entryFrame m #[(.ref a1), (.ref a2)] 2) := fun t k => pre2 t (by
        show Steps p.tables e below (s₁.setTop (mkF m 5 #[.val (.ref a1), .val (.ref a2)] [])) t
        refine XS.iconst X0.here hx rfl (hb hby dV2_5) ?_
        exact k)
    have hnr : Value.int (nar .boolean (1 : Int32)) = (.int (1 : Int32)) := by rfl
    obtain ⟨fs, hr, hrun, hended, hW, hsame⟩ := X0.leave (v := some (.int (1 : Int32))) (fun h => by rw [Bd.returns] at h; cases h)
    refine ⟨_, _, pre3 _ (retN X0 hx (t := .boolean) Bd.returns (by simp) (hb hby dV2_6) (hnr ▸ hr)), hrun, hended, _, _, rfl, ?_, ⟨_, rfl⟩, hW, hsame.mono (by decide) (by decide)⟩
    show QV2 Z a1 a2 w0 w1 w2 w3 w4 w5 w6 w7 w8 r h0 n0 _ s₁.heap _
    rw [e0]
    exact ⟨by rw [← hR]; simp [wF2, ha2], N0, rfl⟩
  · have pre4 : Go p e below s₁ (mkF m 7 #[.val (.ref a1), .val (.ref a2)] []) s₁ (entryFrame m #[(.ref a1), (.ref a2)] 2) := fun t k => pre1 t (Jvm.RoadKit.acmp (g := (mkF m 2 #[.val (.ref a1), .val (.ref a2)] [(.ref a2), (.ref a1)])) X0 hx rfl rfl rfl (pc0 := 2) (pc' := 7) (same := false) rfl (hb hby dV2_2) rfl (decide_eq_false fun q => ha2 (Value.ref.inj q)) (by decide) (by decide) k)
    have pre5 : Go p e below s₁ (mkF m 8 #[.val (.ref a1), .val (.ref a2)] [(.ref a1)]) s₁ (entryFrame m #[(.ref a1), (.ref a2)] 2) := fun t k => pre4 t (by
        show Steps p.tables e below (s₁.setTop (mkF m 7 #[.val (.ref a1), .val (.ref a2)] [])) t
        refine XS.aloadN X0.here hx rfl (hb hby dV2_7) rfl rfl ?_
        exact k)
    obtain ⟨cq6, kq6, q6a, q6b, q6c⟩ := isOf hZ e0 E1
    obtain ⟨_, _, ⟨T6, L6, k6, n6⟩, -, X6, ⟨Lc6, hQ6, l6, y6, z6⟩, st6⟩ := X0.virtualBackUp hx (x := (⟨"com/example/whisker/whisker/PrimitiveType", "ordinal", "()I"⟩ : MethodName)) (y := (⟨"java/lang/Enum", "ordinal", "()I"⟩ : MethodName)) (owner := "java/lang/Enum") hown (mvT hZ (hw _ (List.mem_of_getElem? (i := 18) rfl))) (mvT hZ (hw _ (List.mem_of_getElem? (i := 19) rfl))) (mvT hZ (hw _ (List.mem_of_getElem? (i := 20) rfl))) (by decide) (mvT hZ (hw _ (List.mem_of_getElem? (i := 22) rfl))) (mvT hZ (hw _ (List.mem_of_getElem? (i := 21) rfl))) (backOf (W := 0) (rmO l Z a0 hw [] a1 (2 : Int32) h0 n0 Z0 F1) hZ (hw _ (List.mem_of_getElem? (i := 24) rfl)) (hw _ (List.mem_of_getElem? (i := 23) rfl)) (by decide) (by decide)) q6a q6c (g := (mkF m 8 #[.val (.ref a1), .val (.ref a2)] [(.ref a1)])) rfl (by rw [hml]; rfl) (Steps.refl _) (argsL := []) (rest := []) (lenOf pdV2_0 rfl) rfl (by show 2 * 0 + _ ≤ _; exact Nat.le_of_eq rfl) (hb hby dV2_8) (fun _ _ => ⟨rfl, e0, (by decide : 0 + 0 ≤ _), (by decide : 0 + 0 ≤ _)⟩)
    dsimp only [Pt.U, Pt.locs, Pt.cells, Pt.slots] at X6 l6 y6 z6 st6 hQ6
    subst l6 y6 z6
    obtain ⟨rfl, N6q, hq6⟩ := hQ6
    have N6 := Fr.app N0 N6q
    have pre7 : Go p e below T6 (mkF m 11 #[.val (.ref a1), .val (.ref a2)] [(.int (2 : Int32))]) s₁ (entryFrame m #[(.ref a1), (.ref a2)] 2) := fun t k => pre5 t (st6.trans k)
    have e6 : T6.heap = h0 := hq6
    have pre8 : Go p e below T6 (mkF m 71 #[.val (.ref a1), .val (.ref a2)] []) s₁ (entryFrame m #[(.ref a1), (.ref a2)] 2) := fun t k => pre7 t (by
        show Steps p.tables e below (T6.setTop (mkF m 11 #[.val (.ref a1), .val (.ref a2)] [(.int (2 : Int32))])) t
        refine XS.tswIn X6.here hx rfl (pc0 := 11) (pc' := 71) (o := 60) rfl (hb hby dV2_11) rfl (by decide) (by decide) (by decide) (by decide) ?_
        exact k)
    obtain ⟨T9, X9, e9, st9⟩ := getS2 X6 hx hZ hown (host := "") (Or.inl (hw _ (List.mem_of_getElem? (i := 42) rfl))) Via.refl e6 S4 (g := (mkF m 71 #[.val (.ref a1), .val (.ref a2)] [])) rfl (hb hby dV2_71)
    have pre10 : Go p e below T9 (mkF m 74 #[.val (.ref a1), .val (.ref a2)] [(.ref w4)]) s₁ (entryFrame m #[(.ref a1), (.ref a2)] 2) := fun t k => pre8 t (st9 t k)
    have pre11 : Go p e below T9 (mkF m 75 #[.val (.ref a1), .val (.ref a2)] [(.ref a2), (.ref w4)]) s₁ (entryFrame m #[(.ref a1), (.ref a2)] 2) := fun t k => pre10 t (by
        show Steps p.tables e below (T9.setTop (mkF m 74 #[.val (.ref a1), .val (.ref a2)] [(.ref w4)])) t
        refine XS.aloadN X9.here hx rfl (hb hby dV2_74) rfl rfl ?_
        exact k)
    obtain ⟨cq12, kq12, q12a, q12b, q12c⟩ := isOf hZ e9 E4
    obtain ⟨_, _, ⟨T12, L12, k12, n12⟩, -, X12, ⟨Lc12, hQ12, l12, y12, z12⟩, st12⟩ := X9.virtualBack hx (y := (⟨"com/example/whisker/whisker/PrimitiveType", "widensTo", "(Lcom/example/whisker/whisker/PrimitiveType;)Z"⟩ : MethodName)) (z := (⟨"com/example/whisker/whisker/PrimitiveType", "widensTo", "(Lcom/example/whisker/whisker/PrimitiveType;)Z"⟩ : MethodName)) hown (mvT hZ (hw _ (List.mem_of_getElem? (i := 33) rfl))) (mvT hZ (hw _ (List.mem_of_getElem? (i := 14) rfl))) (notFace_of_selects (args := #[]) (mvT hZ (hw _ (List.mem_of_getElem? (i := 16) rfl)))) (mvT hZ (hw _ (List.mem_of_getElem? (i := 16) rfl))) (mvT hZ (hw _ (List.mem_of_getElem? (i := 15) rfl))) (by decide) (backOf (W := 0) (rmW4 l Z a0 hw [] w4 a2 w0 w1 w2 w3 w4 w5 w6 w7 w8 (wF4 w4 a2 w0 w1 w2 w3 w4 w5 w6 w7 w8) h0 n0 Z0 S0 S1 S2 S3 S4 S5 S6 S7 S8 E4 F4 E4 E5 E6 F4 F5 F6 rfl) hZ (hw _ (List.mem_of_getElem? (i := 17) rfl)) (hw _ (List.mem_of_getElem? (i := 6) rfl)) (by decide) (by decide)) q12a q12c (g := (mkF m 75 #[.val (.ref a1), .val (.ref a2)] [(.ref a2), (.ref w4)])) rfl (by rw [hml]; rfl) (Steps.refl _) (argsL := [(.ref a2)]) (rest := []) (lenOf pdV2_1 rfl) rfl (by show 2 * 0 + _ ≤ _; exact Nat.le_of_eq rfl) (hb hby dV2_75) (fun _ _ => ⟨rfl, e9, (by decide : 0 + 0 ≤ _), (by decide : 0 + 0 ≤ _)⟩)
    dsimp only [Pt.U, Pt.locs, Pt.cells, Pt.slots] at X12 l12 y12 z12 st12 hQ12
    subst l12 y12 z12
    obtain ⟨rfl, N12q, hq12⟩ := hQ12
    have N12 := Fr.app N6 N12q
    have pre13 : Go p e below T12 (mkF m 78 #[.val (.ref a1), .val (.ref a2)] [(.int (wF4 w4 a2 w0 w1 w2 w3 w4 w5 w6 w7 w8))]) s₁ (entryFrame m #[(.ref a1), (.ref a2)] 2) := fun t k => pre11 t (st12.trans k)
    have e12 : T12.heap = h0 := hq12
    have hnr : Value.int (nar .boolean (wF4 w4 a2 w0 w1 w2 w3 w4 w5 w6 w7 w8)) = (.int (wF4 w4 a2 w0 w1 w2 w3 w4 w5 w6 w7 w8)) := by rw [own_wF4]
    obtain ⟨fs, hr, hrun, hended, hW, hsame⟩ := X12.leave (v := some (.int (wF4 w4 a2 w0 w1 w2 w3 w4 w5 w6 w7 w8))) (fun h => by rw [Bd.returns] at h; cases h)
    refine ⟨_, _, pre13 _ (retN X12 hx (t := .boolean) Bd.returns (by simp) (hb hby dV2_78) (hnr ▸ hr)), hrun, hended, _, _, rfl, ?_, ⟨_, rfl⟩, hW, hsame.mono (by decide) (by decide)⟩
    show QV2 Z a1 a2 w0 w1 w2 w3 w4 w5 w6 w7 w8 r h0 n0 _ T12.heap _
    rw [e12]
    exact ⟨by rw [← hR]; simp [wF2, ha2], N12, rfl⟩
theorem dV3_0 : decode prog_13_method_8_code 0 = .ok (.aload_n 0, 1) := by decide +kernel
theorem dV3_1 : decode prog_13_method_8_code 1 = .ok (.aload_n 1, 1) := by decide +kernel
theorem dV3_2 : decode prog_13_method_8_code 2 = .ok (.if_acmp .ne 5, 3) := by decide +kernel
theorem dV3_5 : decode prog_13_method_8_code 5 = .ok (.iconst 1, 1) := by decide +kernel
theorem dV3_6 : decode prog_13_method_8_code 6 = .ok (.ireturn, 1) := by decide +kernel
theorem dV3_7 : decode prog_13_method_8_code 7 = .ok (.aload_n 0, 1) := by decide +kernel
theorem dV3_8 : decode prog_13_method_8_code 8 = .ok (.invokevirtual 90, 3) := by decide +kernel
theorem dV3_11 : decode prog_13_method_8_code 11 = .ok (.tableswitch 127 1 6 #[37, 60, 60, 68, 91, 114], 37) := by decide +kernel
theorem dV3_71 : decode prog_13_method_8_code 71 = .ok (.getstatic 16, 3) := by decide +kernel
theorem dV3_74 : decode prog_13_method_8_code 74 = .ok (.aload_n 1, 1) := by decide +kernel
theorem dV3_75 : decode prog_13_method_8_code 75 = .ok (.invokevirtual 94, 3) := by decide +kernel
theorem dV3_78 : decode prog_13_method_8_code 78 = .ok (.ireturn, 1) := by decide +kernel
theorem pnV3 : plainName "com/example/whisker/whisker/PrimitiveType" = true := by first | (simp [plainName, overriddenIn]; done) | decide +kernel
theorem pdV3_0 : parseMethodDescriptor "()I" = some ⟨[], some .int⟩ := by decide +kernel
theorem pdV3_1 : parseMethodDescriptor "(Lcom/example/whisker/whisker/PrimitiveType;)Z" = some ⟨[(.object "com/example/whisker/whisker/PrimitiveType")], some .boolean⟩ := by decide +kernel
theorem efV3 (m : MethodId) (a1 : Addr) (a2 : Addr) : entryFrame m #[(.ref a1), (.ref a2)] 2 = mkF m 0 #[.val (.ref a1), .val (.ref a2)] [] := by first | (simp [entryFrame, mkF, argsToLocals, Value.category]; done) | rfl
def QV3 (Z : State) (a1 : Addr) (a2 : Addr) (w0 : Addr) (w1 : Addr) (w2 : Addr) (w3 : Addr) (w4 : Addr) (w5 : Addr) (w6 : Addr) (w7 : Addr) (w8 : Addr) (r : Int32) (h0 : Heap) (n0 : Nat) (v : Option Value) (h : Heap) (L : List Loc) : Prop := v = some (.int r) ∧ Fr n0 L ∧ h = h0
set_option maxRecDepth 65536 in
set_option maxHeartbeats 40000000 in
theorem rmV3 (l : Launch) (Z : State) (a0 : Array Value) (hw : ∀ d ∈ tables_1, d.before a0 Z = true) (ws : List Jvm.Cond) (a1 : Addr) (a2 : Addr) (w0 : Addr) (w1 : Addr) (w2 : Addr) (w3 : Addr) (w4 : Addr) (w5 : Addr) (w6 : Addr) (w7 : Addr) (w8 : Addr) (r : Int32) (h0 : Heap) (n0 : Nat) (Z0 : n0 ≤ h0.size) (S0 : Sta Z h0 "com/example/whisker/whisker/PrimitiveType" "BOOLEAN" "Lcom/example/whisker/whisker/PrimitiveType;" (.ref w0)) (S1 : Sta Z h0 "com/example/whisker/whisker/PrimitiveType" "BYTE" "Lcom/example/whisker/whisker/PrimitiveType;" (.ref w1)) (S2 : Sta Z h0 "com/example/whisker/whisker/PrimitiveType" "SHORT" "Lcom/example/whisker/whisker/PrimitiveType;" (.ref w2)) (S3 : Sta Z h0 "com/example/whisker/whisker/PrimitiveType" "CHAR" "Lcom/example/whisker/whisker/PrimitiveType;" (.ref w3)) (S4 : Sta Z h0 "com/example/whisker/whisker/PrimitiveType" "INT" "Lcom/example/whisker/whisker/PrimitiveType;" (.ref w4)) (S5 : Sta Z h0 "com/example/whisker/whisker/PrimitiveType" "LONG" "Lcom/example/whisker/whisker/PrimitiveType;" (.ref w5)) (S6 : Sta Z h0 "com/example/whisker/whisker/PrimitiveType" "FLOAT" "Lcom/example/whisker/whisker/PrimitiveType;" (.ref w6)) (S7 : Sta Z h0 "com/example/whisker/whisker/PrimitiveType" "DOUBLE" "Lcom/example/whisker/whisker/PrimitiveType;" (.ref w7)) (S8 : Sta Z h0 "com/example/whisker/whisker/PrimitiveType" "VOID" "Lcom/example/whisker/whisker/PrimitiveType;" (.ref w8)) (E1 : Exa Z h0 a1 "com/example/whisker/whisker/PrimitiveType") (F1 : Fld Z h0 a1 "java/lang/Enum" "ordinal" "I" (.int 3)) (E4 : Exa Z h0 w4 "com/example/whisker/whisker/PrimitiveType") (E5 : Exa Z h0 w5 "com/example/whisker/whisker/PrimitiveType") (E6 : Exa Z h0 w6 "com/example/whisker/whisker/PrimitiveType") (F4 : Fld Z h0 w4 "java/lang/Enum" "ordinal" "I" (.int 4)) (F5 : Fld Z h0 w5 "java/lang/Enum" "ordinal" "I" (.int 5)) (F6 : Fld Z h0 w6 "java/lang/Enum" "ordinal" "I" (.int 6)) (hR : wF3 a1 a2 w0 w1 w2 w3 w4 w5 w6 w7 w8 = r) :
    MetFree l (⟨"com/example/whisker/whisker/PrimitiveType", "widensTo", "(Lcom/example/whisker/whisker/PrimitiveType;)Z"⟩ : MethodName) (head1 (Jvm.Cond.code (⟨"com/example/whisker/whisker/PrimitiveType", "widensTo", "(Lcom/example/whisker/whisker/PrimitiveType;)Z"⟩ : MethodName) prog_13_method_8_code 2 (some .boolean) :: ws) ({ frames := 4, cells := 0, slots := 0, locals := 90 } : Room)) (fun a U => a = #[(.ref a1), (.ref a2)] ∧ Z.Warmed39 U.vm ∧ U.heap = h0) (fun _ _ _ _ _ => True) (fun _ U o U' => ∃ v L, o = .returned v ∧ QV3 Z a1 a2 w0 w1 w2 w3 w4 w5 w6 w7 w8 r h0 n0 v U'.heap L ∧ FrameEnd U o U' L ({ frames := 4, cells := 0, slots := 0, locals := 90 } : Room).cells ({ frames := 4, cells := 0, slots := 0, locals := 90 } : Room).slots) := by
  refine MetFree.of_bodySF (plainFor_of_name pnV3) hisR ?_
  intro p e s m args below meth c s₁ Bd hml0 hP hK
  obtain ⟨rfl, hZ, hh⟩ := hP
  have hx := Bd.exec
  have hby := Bd.bytes
  have hml : c.maxLocals = 2 := hml0
  have hown : s.vm.findClass "com/example/whisker/whisker/PrimitiveType" = some m.cls := findClass_of_methodNamed Bd.named
  have hnm := (name_of_methodNamed Bd.named Bd.method).1
  have X0 : Stand p l e ({ frames := 4, cells := 0, slots := 0, locals := 90 } : Room) s m #[(.ref a1), (.ref a2)] below meth c s₁ [] 0 0 := Stand.of_body Bd
  have e0 : s₁.heap = h0 := by rw [← hh, Bd.state]; rfl
  have N0 := Fr.nil n0
  have pre0 : Go p e below s₁ (mkF m 0 #[.val (.ref a1), .val (.ref a2)] []) s₁ (entryFrame m #[(.ref a1), (.ref a2)] 2) := fun t k => castTop (efV3 m a1 a2) k
  have pre1 : Go p e below s₁ (mkF m 2 #[.val (.ref a1), .val (.ref a2)] [(.ref a2), (.ref a1)]) s₁ (entryFrame m #[(.ref a1), (.ref a2)] 2) := fun t k => pre0 t (by
      show Steps p.tables e below (s₁.setTop (mkF m 0 #[.val (.ref a1), .val (.ref a2)] [])) t
      refine XS.aloadN X0.here hx rfl (hb hby dV3_0) rfl rfl ?_
      show Steps p.tables e below (s₁.setTop (mkF m 1 #[.val (.ref a1), .val (.ref a2)] [(.ref a1)])) t
      refine XS.aloadN X0.here hx rfl (hb hby dV3_1) rfl rfl ?_
      exact k)
  by_cases ha2 : a1 = a2
  · have pre2 : Go p e below s₁ (mkF m 5 #[.val (.ref a1), .val (.ref a2)] []) s₁ (entryFrame m #[(.ref a1), (.ref a2)] 2) := fun t k => pre1 t (Jvm.RoadKit.acmp (g := (mkF m 2 #[.val (.ref a1), .val (.ref a2)] [(.ref a2), (.ref a1)])) X0 hx rfl rfl rfl (pc0 := 2) (pc' := 5) (same := true) rfl (hb hby dV3_2) rfl (decide_eq_true (congrArg Value.ref ha2)) (by decide) (by decide) k)
    have pre3 : Go p e below s₁ (mkF m 6 #[.val (.ref a1), .val (.ref a2)] [(.int (1 : Int32))]) s₁ (entryFrame m #[(.ref a1), (.ref a2)] 2) := fun t k => pre2 t (by
        show Steps p.tables e below (s₁.setTop (mkF m 5 #[.val (.ref a1), .val (.ref a2)] [])) t
        refine XS.iconst X0.here hx rfl (hb hby dV3_5) ?_
        exact k)
    have hnr : Value.int (nar .boolean (1 : Int32)) = (.int (1 : Int32)) := by rfl
    obtain ⟨fs, hr, hrun, hended, hW, hsame⟩ := X0.leave (v := some (.int (1 : Int32))) (fun h => by rw [Bd.returns] at h; cases h)
    refine ⟨_, _, pre3 _ (retN X0 hx (t := .boolean) Bd.returns (by simp) (hb hby dV3_6) (hnr ▸ hr)), hrun, hended, _, _, rfl, ?_, ⟨_, rfl⟩, hW, hsame.mono (by decide) (by decide)⟩
    show QV3 Z a1 a2 w0 w1 w2 w3 w4 w5 w6 w7 w8 r h0 n0 _ s₁.heap _
    rw [e0]
    exact ⟨by rw [← hR]; simp [wF3, ha2], N0, rfl⟩
  · have pre4 : Go p e below s₁ (mkF m 7 #[.val (.ref a1), .val (.ref a2)] []) s₁ (entryFrame m #[(.ref a1), (.ref a2)] 2) := fun t k => pre1 t (Jvm.RoadKit.acmp (g := (mkF m 2 #[.val (.ref a1), .val (.ref a2)] [(.ref a2), (.ref a1)])) X0 hx rfl rfl rfl (pc0 := 2) (pc' := 7) (same := false) rfl (hb hby dV3_2) rfl (decide_eq_false fun q => ha2 (Value.ref.inj q)) (by decide) (by decide) k)
    have pre5 : Go p e below s₁ (mkF m 8 #[.val (.ref a1), .val (.ref a2)] [(.ref a1)]) s₁ (entryFrame m #[(.ref a1), (.ref a2)] 2) := fun t k => pre4 t (by
        show Steps p.tables e below (s₁.setTop (mkF m 7 #[.val (.ref a1), .val (.ref a2)] [])) t
        refine XS.aloadN X0.here hx rfl (hb hby dV3_7) rfl rfl ?_
        exact k)
    obtain ⟨cq6, kq6, q6a, q6b, q6c⟩ := isOf hZ e0 E1
    obtain ⟨_, _, ⟨T6, L6, k6, n6⟩, -, X6, ⟨Lc6, hQ6, l6, y6, z6⟩, st6⟩ := X0.virtualBackUp hx (x := (⟨"com/example/whisker/whisker/PrimitiveType", "ordinal", "()I"⟩ : MethodName)) (y := (⟨"java/lang/Enum", "ordinal", "()I"⟩ : MethodName)) (owner := "java/lang/Enum") hown (mvT hZ (hw _ (List.mem_of_getElem? (i := 18) rfl))) (mvT hZ (hw _ (List.mem_of_getElem? (i := 19) rfl))) (mvT hZ (hw _ (List.mem_of_getElem? (i := 20) rfl))) (by decide) (mvT hZ (hw _ (List.mem_of_getElem? (i := 22) rfl))) (mvT hZ (hw _ (List.mem_of_getElem? (i := 21) rfl))) (backOf (W := 0) (rmO l Z a0 hw [] a1 (3 : Int32) h0 n0 Z0 F1) hZ (hw _ (List.mem_of_getElem? (i := 24) rfl)) (hw _ (List.mem_of_getElem? (i := 23) rfl)) (by decide) (by decide)) q6a q6c (g := (mkF m 8 #[.val (.ref a1), .val (.ref a2)] [(.ref a1)])) rfl (by rw [hml]; rfl) (Steps.refl _) (argsL := []) (rest := []) (lenOf pdV3_0 rfl) rfl (by show 2 * 0 + _ ≤ _; exact Nat.le_of_eq rfl) (hb hby dV3_8) (fun _ _ => ⟨rfl, e0, (by decide : 0 + 0 ≤ _), (by decide : 0 + 0 ≤ _)⟩)
    dsimp only [Pt.U, Pt.locs, Pt.cells, Pt.slots] at X6 l6 y6 z6 st6 hQ6
    subst l6 y6 z6
    obtain ⟨rfl, N6q, hq6⟩ := hQ6
    have N6 := Fr.app N0 N6q
    have pre7 : Go p e below T6 (mkF m 11 #[.val (.ref a1), .val (.ref a2)] [(.int (3 : Int32))]) s₁ (entryFrame m #[(.ref a1), (.ref a2)] 2) := fun t k => pre5 t (st6.trans k)
    have e6 : T6.heap = h0 := hq6
    have pre8 : Go p e below T6 (mkF m 71 #[.val (.ref a1), .val (.ref a2)] []) s₁ (entryFrame m #[(.ref a1), (.ref a2)] 2) := fun t k => pre7 t (by
        show Steps p.tables e below (T6.setTop (mkF m 11 #[.val (.ref a1), .val (.ref a2)] [(.int (3 : Int32))])) t
        refine XS.tswIn X6.here hx rfl (pc0 := 11) (pc' := 71) (o := 60) rfl (hb hby dV3_11) rfl (by decide) (by decide) (by decide) (by decide) ?_
        exact k)
    obtain ⟨T9, X9, e9, st9⟩ := getS2 X6 hx hZ hown (host := "") (Or.inl (hw _ (List.mem_of_getElem? (i := 42) rfl))) Via.refl e6 S4 (g := (mkF m 71 #[.val (.ref a1), .val (.ref a2)] [])) rfl (hb hby dV3_71)
    have pre10 : Go p e below T9 (mkF m 74 #[.val (.ref a1), .val (.ref a2)] [(.ref w4)]) s₁ (entryFrame m #[(.ref a1), (.ref a2)] 2) := fun t k => pre8 t (st9 t k)
    have pre11 : Go p e below T9 (mkF m 75 #[.val (.ref a1), .val (.ref a2)] [(.ref a2), (.ref w4)]) s₁ (entryFrame m #[(.ref a1), (.ref a2)] 2) := fun t k => pre10 t (by
        show Steps p.tables e below (T9.setTop (mkF m 74 #[.val (.ref a1), .val (.ref a2)] [(.ref w4)])) t
        refine XS.aloadN X9.here hx rfl (hb hby dV3_74) rfl rfl ?_
        exact k)
    obtain ⟨cq12, kq12, q12a, q12b, q12c⟩ := isOf hZ e9 E4
    obtain ⟨_, _, ⟨T12, L12, k12, n12⟩, -, X12, ⟨Lc12, hQ12, l12, y12, z12⟩, st12⟩ := X9.virtualBack hx (y := (⟨"com/example/whisker/whisker/PrimitiveType", "widensTo", "(Lcom/example/whisker/whisker/PrimitiveType;)Z"⟩ : MethodName)) (z := (⟨"com/example/whisker/whisker/PrimitiveType", "widensTo", "(Lcom/example/whisker/whisker/PrimitiveType;)Z"⟩ : MethodName)) hown (mvT hZ (hw _ (List.mem_of_getElem? (i := 33) rfl))) (mvT hZ (hw _ (List.mem_of_getElem? (i := 14) rfl))) (notFace_of_selects (args := #[]) (mvT hZ (hw _ (List.mem_of_getElem? (i := 16) rfl)))) (mvT hZ (hw _ (List.mem_of_getElem? (i := 16) rfl))) (mvT hZ (hw _ (List.mem_of_getElem? (i := 15) rfl))) (by decide) (backOf (W := 0) (rmW4 l Z a0 hw [] w4 a2 w0 w1 w2 w3 w4 w5 w6 w7 w8 (wF4 w4 a2 w0 w1 w2 w3 w4 w5 w6 w7 w8) h0 n0 Z0 S0 S1 S2 S3 S4 S5 S6 S7 S8 E4 F4 E4 E5 E6 F4 F5 F6 rfl) hZ (hw _ (List.mem_of_getElem? (i := 17) rfl)) (hw _ (List.mem_of_getElem? (i := 6) rfl)) (by decide) (by decide)) q12a q12c (g := (mkF m 75 #[.val (.ref a1), .val (.ref a2)] [(.ref a2), (.ref w4)])) rfl (by rw [hml]; rfl) (Steps.refl _) (argsL := [(.ref a2)]) (rest := []) (lenOf pdV3_1 rfl) rfl (by show 2 * 0 + _ ≤ _; exact Nat.le_of_eq rfl) (hb hby dV3_75) (fun _ _ => ⟨rfl, e9, (by decide : 0 + 0 ≤ _), (by decide : 0 + 0 ≤ _)⟩)
    dsimp only [Pt.U, Pt.locs, Pt.cells, Pt.slots] at X12 l12 y12 z12 st12 hQ12
    subst l12 y12 z12
    obtain ⟨rfl, N12q, hq12⟩ := hQ12
    have N12 := Fr.app N6 N12q
    have pre13 : Go p e below T12 (mkF m 78 #[.val (.ref a1), .val (.ref a2)] [(.int (wF4 w4 a2 w0 w1 w2 w3 w4 w5 w6 w7 w8))]) s₁ (entryFrame m #[(.ref a1), (.ref a2)] 2) := fun t k => pre11 t (st12.trans k)
    have e12 : T12.heap = h0 := hq12
    have hnr : Value.int (nar .boolean (wF4 w4 a2 w0 w1 w2 w3 w4 w5 w6 w7 w8)) = (.int (wF4 w4 a2 w0 w1 w2 w3 w4 w5 w6 w7 w8)) := by rw [own_wF4]
    obtain ⟨fs, hr, hrun, hended, hW, hsame⟩ := X12.leave (v := some (.int (wF4 w4 a2 w0 w1 w2 w3 w4 w5 w6 w7 w8))) (fun h => by rw [Bd.returns] at h; cases h)
    refine ⟨_, _, pre13 _ (retN X12 hx (t := .boolean) Bd.returns (by simp) (hb hby dV3_78) (hnr ▸ hr)), hrun, hended, _, _, rfl, ?_, ⟨_, rfl⟩, hW, hsame.mono (by decide) (by decide)⟩
    show QV3 Z a1 a2 w0 w1 w2 w3 w4 w5 w6 w7 w8 r h0 n0 _ T12.heap _
    rw [e12]
    exact ⟨by rw [← hR]; simp [wF3, ha2], N12, rfl⟩
theorem dV4_0 : decode prog_13_method_8_code 0 = .ok (.aload_n 0, 1) := by decide +kernel
theorem dV4_1 : decode prog_13_method_8_code 1 = .ok (.aload_n 1, 1) := by decide +kernel
theorem dV4_2 : decode prog_13_method_8_code 2 = .ok (.if_acmp .ne 5, 3) := by decide +kernel
theorem dV4_5 : decode prog_13_method_8_code 5 = .ok (.iconst 1, 1) := by decide +kernel
theorem dV4_6 : decode prog_13_method_8_code 6 = .ok (.ireturn, 1) := by decide +kernel
theorem dV4_7 : decode prog_13_method_8_code 7 = .ok (.aload_n 0, 1) := by decide +kernel
theorem dV4_8 : decode prog_13_method_8_code 8 = .ok (.invokevirtual 90, 3) := by decide +kernel
theorem dV4_11 : decode prog_13_method_8_code 11 = .ok (.tableswitch 127 1 6 #[37, 60, 60, 68, 91, 114], 37) := by decide +kernel
theorem dV4_79 : decode prog_13_method_8_code 79 = .ok (.aload_n 1, 1) := by decide +kernel
theorem dV4_80 : decode prog_13_method_8_code 80 = .ok (.getstatic 19, 3) := by decide +kernel
theorem dV4_83 : decode prog_13_method_8_code 83 = .ok (.if_acmp .eq 13, 3) := by decide +kernel
theorem dV4_86 : decode prog_13_method_8_code 86 = .ok (.getstatic 19, 3) := by decide +kernel
theorem dV4_89 : decode prog_13_method_8_code 89 = .ok (.aload_n 1, 1) := by decide +kernel
theorem dV4_90 : decode prog_13_method_8_code 90 = .ok (.invokevirtual 94, 3) := by decide +kernel
theorem dV4_93 : decode prog_13_method_8_code 93 = .ok (.ifCond .eq 7, 3) := by decide +kernel
theorem dV4_96 : decode prog_13_method_8_code 96 = .ok (.iconst 1, 1) := by decide +kernel
theorem dV4_97 : decode prog_13_method_8_code 97 = .ok (.goto 4, 3) := by decide +kernel
theorem dV4_100 : decode prog_13_method_8_code 100 = .ok (.iconst 0, 1) := by decide +kernel
theorem dV4_101 : decode prog_13_method_8_code 101 = .ok (.ireturn, 1) := by decide +kernel
theorem pnV4 : plainName "com/example/whisker/whisker/PrimitiveType" = true := by first | (simp [plainName, overriddenIn]; done) | decide +kernel
theorem pdV4_0 : parseMethodDescriptor "()I" = some ⟨[], some .int⟩ := by decide +kernel
theorem pdV4_1 : parseMethodDescriptor "(Lcom/example/whisker/whisker/PrimitiveType;)Z" = some ⟨[(.object "com/example/whisker/whisker/PrimitiveType")], some .boolean⟩ := by decide +kernel
theorem efV4 (m : MethodId) (a1 : Addr) (a2 : Addr) : entryFrame m #[(.ref a1), (.ref a2)] 2 = mkF m 0 #[.val (.ref a1), .val (.ref a2)] [] := by first | (simp [entryFrame, mkF, argsToLocals, Value.category]; done) | rfl
def QV4 (Z : State) (a1 : Addr) (a2 : Addr) (w0 : Addr) (w1 : Addr) (w2 : Addr) (w3 : Addr) (w4 : Addr) (w5 : Addr) (w6 : Addr) (w7 : Addr) (w8 : Addr) (r : Int32) (h0 : Heap) (n0 : Nat) (v : Option Value) (h : Heap) (L : List Loc) : Prop := v = some (.int r) ∧ Fr n0 L ∧ h = h0
set_option maxRecDepth 65536 in
set_option maxHeartbeats 40000000 in
theorem rmV4 (l : Launch) (Z : State) (a0 : Array Value) (hw : ∀ d ∈ tables_1, d.before a0 Z = true) (ws : List Jvm.Cond) (a1 : Addr) (a2 : Addr) (w0 : Addr) (w1 : Addr) (w2 : Addr) (w3 : Addr) (w4 : Addr) (w5 : Addr) (w6 : Addr) (w7 : Addr) (w8 : Addr) (r : Int32) (h0 : Heap) (n0 : Nat) (Z0 : n0 ≤ h0.size) (S0 : Sta Z h0 "com/example/whisker/whisker/PrimitiveType" "BOOLEAN" "Lcom/example/whisker/whisker/PrimitiveType;" (.ref w0)) (S1 : Sta Z h0 "com/example/whisker/whisker/PrimitiveType" "BYTE" "Lcom/example/whisker/whisker/PrimitiveType;" (.ref w1)) (S2 : Sta Z h0 "com/example/whisker/whisker/PrimitiveType" "SHORT" "Lcom/example/whisker/whisker/PrimitiveType;" (.ref w2)) (S3 : Sta Z h0 "com/example/whisker/whisker/PrimitiveType" "CHAR" "Lcom/example/whisker/whisker/PrimitiveType;" (.ref w3)) (S4 : Sta Z h0 "com/example/whisker/whisker/PrimitiveType" "INT" "Lcom/example/whisker/whisker/PrimitiveType;" (.ref w4)) (S5 : Sta Z h0 "com/example/whisker/whisker/PrimitiveType" "LONG" "Lcom/example/whisker/whisker/PrimitiveType;" (.ref w5)) (S6 : Sta Z h0 "com/example/whisker/whisker/PrimitiveType" "FLOAT" "Lcom/example/whisker/whisker/PrimitiveType;" (.ref w6)) (S7 : Sta Z h0 "com/example/whisker/whisker/PrimitiveType" "DOUBLE" "Lcom/example/whisker/whisker/PrimitiveType;" (.ref w7)) (S8 : Sta Z h0 "com/example/whisker/whisker/PrimitiveType" "VOID" "Lcom/example/whisker/whisker/PrimitiveType;" (.ref w8)) (E1 : Exa Z h0 a1 "com/example/whisker/whisker/PrimitiveType") (F1 : Fld Z h0 a1 "java/lang/Enum" "ordinal" "I" (.int 4)) (E4 : Exa Z h0 w4 "com/example/whisker/whisker/PrimitiveType") (E5 : Exa Z h0 w5 "com/example/whisker/whisker/PrimitiveType") (E6 : Exa Z h0 w6 "com/example/whisker/whisker/PrimitiveType") (F4 : Fld Z h0 w4 "java/lang/Enum" "ordinal" "I" (.int 4)) (F5 : Fld Z h0 w5 "java/lang/Enum" "ordinal" "I" (.int 5)) (F6 : Fld Z h0 w6 "java/lang/Enum" "ordinal" "I" (.int 6)) (hR : wF4 a1 a2 w0 w1 w2 w3 w4 w5 w6 w7 w8 = r) :
    MetFree l (⟨"com/example/whisker/whisker/PrimitiveType", "widensTo", "(Lcom/example/whisker/whisker/PrimitiveType;)Z"⟩ : MethodName) (head1 (Jvm.Cond.code (⟨"com/example/whisker/whisker/PrimitiveType", "widensTo", "(Lcom/example/whisker/whisker/PrimitiveType;)Z"⟩ : MethodName) prog_13_method_8_code 2 (some .boolean) :: ws) ({ frames := 4, cells := 0, slots := 0, locals := 90 } : Room)) (fun a U => a = #[(.ref a1), (.ref a2)] ∧ Z.Warmed39 U.vm ∧ U.heap = h0) (fun _ _ _ _ _ => True) (fun _ U o U' => ∃ v L, o = .returned v ∧ QV4 Z a1 a2 w0 w1 w2 w3 w4 w5 w6 w7 w8 r h0 n0 v U'.heap L ∧ FrameEnd U o U' L ({ frames := 4, cells := 0, slots := 0, locals := 90 } : Room).cells ({ frames := 4, cells := 0, slots := 0, locals := 90 } : Room).slots) := by
  refine MetFree.of_bodySF (plainFor_of_name pnV4) hisR ?_
  intro p e s m args below meth c s₁ Bd hml0 hP hK
  obtain ⟨rfl, hZ, hh⟩ := hP
  have hx := Bd.exec
  have hby := Bd.bytes
  have hml : c.maxLocals = 2 := hml0
  have hown : s.vm.findClass "com/example/whisker/whisker/PrimitiveType" = some m.cls := findClass_of_methodNamed Bd.named
  have hnm := (name_of_methodNamed Bd.named Bd.method).1
  have X0 : Stand p l e ({ frames := 4, cells := 0, slots := 0, locals := 90 } : Room) s m #[(.ref a1), (.ref a2)] below meth c s₁ [] 0 0 := Stand.of_body Bd
  have e0 : s₁.heap = h0 := by rw [← hh, Bd.state]; rfl
  have N0 := Fr.nil n0
  have pre0 : Go p e below s₁ (mkF m 0 #[.val (.ref a1), .val (.ref a2)] []) s₁ (entryFrame m #[(.ref a1), (.ref a2)] 2) := fun t k => castTop (efV4 m a1 a2) k
  have pre1 : Go p e below s₁ (mkF m 2 #[.val (.ref a1), .val (.ref a2)] [(.ref a2), (.ref a1)]) s₁ (entryFrame m #[(.ref a1), (.ref a2)] 2) := fun t k => pre0 t (by
      show Steps p.tables e below (s₁.setTop (mkF m 0 #[.val (.ref a1), .val (.ref a2)] [])) t
      refine XS.aloadN X0.here hx rfl (hb hby dV4_0) rfl rfl ?_
      show Steps p.tables e below (s₁.setTop (mkF m 1 #[.val (.ref a1), .val (.ref a2)] [(.ref a1)])) t
      refine XS.aloadN X0.here hx rfl (hb hby dV4_1) rfl rfl ?_
      exact k)
  by_cases ha2 : a1 = a2
  · have pre2 : Go p e below s₁ (mkF m 5 #[.val (.ref a1), .val (.ref a2)] []) s₁ (entryFrame m #[(.ref a1), (.ref a2)] 2) := fun t k => pre1 t (Jvm.RoadKit.acmp (g := (mkF m 2 #[.val (.ref a1), .val (.ref a2)] [(.ref a2), (.ref a1)])) X0 hx rfl rfl rfl (pc0 := 2) (pc' := 5) (same := true) rfl (hb hby dV4_2) rfl (decide_eq_true (congrArg Value.ref ha2)) (by decide) (by decide) k)
    have pre3 : Go p e below s₁ (mkF m 6 #[.val (.ref a1), .val (.ref a2)] [(.int (1 : Int32))]) s₁ (entryFrame m #[(.ref a1), (.ref a2)] 2) := fun t k => pre2 t (by
        show Steps p.tables e below (s₁.setTop (mkF m 5 #[.val (.ref a1), .val (.ref a2)] [])) t
        refine XS.iconst X0.here hx rfl (hb hby dV4_5) ?_
        exact k)
    have hnr : Value.int (nar .boolean (1 : Int32)) = (.int (1 : Int32)) := by rfl
    obtain ⟨fs, hr, hrun, hended, hW, hsame⟩ := X0.leave (v := some (.int (1 : Int32))) (fun h => by rw [Bd.returns] at h; cases h)
    refine ⟨_, _, pre3 _ (retN X0 hx (t := .boolean) Bd.returns (by simp) (hb hby dV4_6) (hnr ▸ hr)), hrun, hended, _, _, rfl, ?_, ⟨_, rfl⟩, hW, hsame.mono (by decide) (by decide)⟩
    show QV4 Z a1 a2 w0 w1 w2 w3 w4 w5 w6 w7 w8 r h0 n0 _ s₁.heap _
    rw [e0]
    exact ⟨by rw [← hR]; simp [wF4, ha2], N0, rfl⟩
  · have pre4 : Go p e below s₁ (mkF m 7 #[.val (.ref a1), .val (.ref a2)] []) s₁ (entryFrame m #[(.ref a1), (.ref a2)] 2) := fun t k => pre1 t (Jvm.RoadKit.acmp (g := (mkF m 2 #[.val (.ref a1), .val (.ref a2)] [(.ref a2), (.ref a1)])) X0 hx rfl rfl rfl (pc0 := 2) (pc' := 7) (same := false) rfl (hb hby dV4_2) rfl (decide_eq_false fun q => ha2 (Value.ref.inj q)) (by decide) (by decide) k)
    have pre5 : Go p e below s₁ (mkF m 8 #[.val (.ref a1), .val (.ref a2)] [(.ref a1)]) s₁ (entryFrame m #[(.ref a1), (.ref a2)] 2) := fun t k => pre4 t (by
        show Steps p.tables e below (s₁.setTop (mkF m 7 #[.val (.ref a1), .val (.ref a2)] [])) t
        refine XS.aloadN X0.here hx rfl (hb hby dV4_7) rfl rfl ?_
        exact k)
    obtain ⟨cq6, kq6, q6a, q6b, q6c⟩ := isOf hZ e0 E1
    obtain ⟨_, _, ⟨T6, L6, k6, n6⟩, -, X6, ⟨Lc6, hQ6, l6, y6, z6⟩, st6⟩ := X0.virtualBackUp hx (x := (⟨"com/example/whisker/whisker/PrimitiveType", "ordinal", "()I"⟩ : MethodName)) (y := (⟨"java/lang/Enum", "ordinal", "()I"⟩ : MethodName)) (owner := "java/lang/Enum") hown (mvT hZ (hw _ (List.mem_of_getElem? (i := 18) rfl))) (mvT hZ (hw _ (List.mem_of_getElem? (i := 19) rfl))) (mvT hZ (hw _ (List.mem_of_getElem? (i := 20) rfl))) (by decide) (mvT hZ (hw _ (List.mem_of_getElem? (i := 22) rfl))) (mvT hZ (hw _ (List.mem_of_getElem? (i := 21) rfl))) (backOf (W := 0) (rmO l Z a0 hw [] a1 (4 : Int32) h0 n0 Z0 F1) hZ (hw _ (List.mem_of_getElem? (i := 24) rfl)) (hw _ (List.mem_of_getElem? (i := 23) rfl)) (by decide) (by decide)) q6a q6c (g := (mkF m 8 #[.val (.ref a1), .val (.ref a2)] [(.ref a1)])) rfl (by rw [hml]; rfl) (Steps.refl _) (argsL := []) (rest := []) (lenOf pdV4_0 rfl) rfl (by show 2 * 0 + _ ≤ _; exact Nat.le_of_eq rfl) (hb hby dV4_8) (fun _ _ => ⟨rfl, e0, (by decide : 0 + 0 ≤ _), (by decide : 0 + 0 ≤ _)⟩)
    dsimp only [Pt.U, Pt.locs, Pt.cells, Pt.slots] at X6 l6 y6 z6 st6 hQ6
    subst l6 y6 z6
    obtain ⟨rfl, N6q, hq6⟩ := hQ6
    have N6 := Fr.app N0 N6q
    have pre7 : Go p e below T6 (mkF m 11 #[.val (.ref a1), .val (.ref a2)] [(.int (4 : Int32))]) s₁ (entryFrame m #[(.ref a1), (.ref a2)] 2) := fun t k => pre5 t (st6.trans k)
    have e6 : T6.heap = h0 := hq6
    have pre8 : Go p e below T6 (mkF m 80 #[.val (.ref a1), .val (.ref a2)] [(.ref a2)]) s₁ (entryFrame m #[(.ref a1), (.ref a2)] 2) := fun t k => pre7 t (by
        show Steps p.tables e below (T6.setTop (mkF m 11 #[.val (.ref a1), .val (.ref a2)] [(.int (4 : Int32))])) t
        refine XS.tswIn X6.here hx rfl (pc0 := 11) (pc' := 79) (o := 68) rfl (hb hby dV4_11) rfl (by decide) (by decide) (by decide) (by decide) ?_
        show Steps p.tables e below (T6.setTop (mkF m 79 #[.val (.ref a1), .val (.ref a2)] [])) t
        refine XS.aloadN X6.here hx rfl (hb hby dV4_79) rfl rfl ?_
        exact k)
    obtain ⟨T9, X9, e9, st9⟩ := getS2 X6 hx hZ hown (host := "") (Or.inl (hw _ (List.mem_of_getElem? (i := 40) rfl))) Via.refl e6 S5 (g := (mkF m 80 #[.val (.ref a1), .val (.ref a2)] [(.ref a2)])) rfl (hb hby dV4_80)
    have pre10 : Go p e below T9 (mkF m 83 #[.val (.ref a1), .val (.ref a2)] [(.ref w5), (.ref a2)]) s₁ (entryFrame m #[(.ref a1), (.ref a2)] 2) := fun t k => pre8 t (st9 t k)
    by_cases ha83 : a2 = w5
    · have pre11 : Go p e below T9 (mkF m 96 #[.val (.ref a1), .val (.ref a2)] []) s₁ (entryFrame m #[(.ref a1), (.ref a2)] 2) := fun t k => pre10 t (Jvm.RoadKit.acmp (g := (mkF m 83 #[.val (.ref a1), .val (.ref a2)] [(.ref w5), (.ref a2)])) X9 hx rfl rfl rfl (pc0 := 83) (pc' := 96) (same := true) rfl (hb hby dV4_83) rfl (decide_eq_true (congrArg Value.ref ha83)) (by decide) (by decide) k)
      have pre12 : Go p e below T9 (mkF m 101 #[.val (.ref a1), .val (.ref a2)] [(.int (1 : Int32))]) s₁ (entryFrame m #[(.ref a1), (.ref a2)] 2) := fun t k => pre11 t (by
          show Steps p.tables e below (T9.setTop (mkF m 96 #[.val (.ref a1), .val (.ref a2)] [])) t
          refine XS.iconst X9.here hx rfl (hb hby dV4_96) ?_
          show Steps p.tables e below (T9.setTop (mkF m 97 #[.val (.ref a1), .val (.ref a2)] [(.int (1 : Int32))])) t
          refine XS.goto X9.here hx rfl (pc0 := 97) (pc' := 101) rfl (hb hby dV4_97) (by decide) (by decide) ?_
          exact k)
      have hnr : Value.int (nar .boolean (1 : Int32)) = (.int (1 : Int32)) := by rfl
      obtain ⟨fs, hr, hrun, hended, hW, hsame⟩ := X9.leave (v := some (.int (1 : Int32))) (fun h => by rw [Bd.returns] at h; cases h)
      refine ⟨_, _, pre12 _ (retN X9 hx (t := .boolean) Bd.returns (by simp) (hb hby dV4_101) (hnr ▸ hr)), hrun, hended, _, _, rfl, ?_, ⟨_, rfl⟩, hW, hsame.mono (by decide) (by decide)⟩
      show QV4 Z a1 a2 w0 w1 w2 w3 w4 w5 w6 w7 w8 r h0 n0 _ T9.heap _
      rw [e9]
      exact ⟨by rw [← hR]; simp [wF4, ha2, ha83], N6, rfl⟩
    · have pre13 : Go p e below T9 (mkF m 86 #[.val (.ref a1), .val (.ref a2)] []) s₁ (entryFrame m #[(.ref a1), (.ref a2)] 2) := fun t k => pre10 t (Jvm.RoadKit.acmp (g := (mkF m 83 #[.val (.ref a1), .val (.ref a2)] [(.ref w5), (.ref a2)])) X9 hx rfl rfl rfl (pc0 := 83) (pc' := 86) (same := false) rfl (hb hby dV4_83) rfl (decide_eq_false fun q => ha83 (Value.ref.inj q)) (by decide) (by decide) k)
      obtain ⟨T14, X14, e14, st14⟩ := getS2 X9 hx hZ hown (host := "") (Or.inl (hw _ (List.mem_of_getElem? (i := 40) rfl))) Via.refl e9 S5 (g := (mkF m 86 #[.val (.ref a1), .val (.ref a2)] [])) rfl (hb hby dV4_86)
      have pre15 : Go p e below T14 (mkF m 89 #[.val (.ref a1), .val (.ref a2)] [(.ref w5)]) s₁ (entryFrame m #[(.ref a1), (.ref a2)] 2) := fun t k => pre13 t (st14 t k)
      have pre16 : Go p e below T14 (mkF m 90 #[.val (.ref a1), .val (.ref a2)] [(.ref a2), (.ref w5)]) s₁ (entryFrame m #[(.ref a1), (.ref a2)] 2) := fun t k => pre15 t (by
          show Steps p.tables e below (T14.setTop (mkF m 89 #[.val (.ref a1), .val (.ref a2)] [(.ref w5)])) t
          refine XS.aloadN X14.here hx rfl (hb hby dV4_89) rfl rfl ?_
          exact k)
      obtain ⟨cq17, kq17, q17a, q17b, q17c⟩ := isOf hZ e14 E5
      obtain ⟨_, _, ⟨T17, L17, k17, n17⟩, -, X17, ⟨Lc17, hQ17, l17, y17, z17⟩, st17⟩ := X14.virtualBack hx (y := (⟨"com/example/whisker/whisker/PrimitiveType", "widensTo", "(Lcom/example/whisker/whisker/PrimitiveType;)Z"⟩ : MethodName)) (z := (⟨"com/example/whisker/whisker/PrimitiveType", "widensTo", "(Lcom/example/whisker/whisker/PrimitiveType;)Z"⟩ : MethodName)) hown (mvT hZ (hw _ (List.mem_of_getElem? (i := 33) rfl))) (mvT hZ (hw _ (List.mem_of_getElem? (i := 14) rfl))) (notFace_of_selects (args := #[]) (mvT hZ (hw _ (List.mem_of_getElem? (i := 16) rfl)))) (mvT hZ (hw _ (List.mem_of_getElem? (i := 16) rfl))) (mvT hZ (hw _ (List.mem_of_getElem? (i := 15) rfl))) (by decide) (backOf (W := 0) (rmW5 l Z a0 hw [] w5 a2 w0 w1 w2 w3 w4 w5 w6 w7 w8 (wF5 w5 a2 w0 w1 w2 w3 w4 w5 w6 w7 w8) h0 n0 Z0 S0 S1 S2 S3 S4 S5 S6 S7 S8 E5 F5 E4 E5 E6 F4 F5 F6 rfl) hZ (hw _ (List.mem_of_getElem? (i := 17) rfl)) (hw _ (List.mem_of_getElem? (i := 6) rfl)) (by decide) (by decide)) q17a q17c (g := (mkF m 90 #[.val (.ref a1), .val (.ref a2)] [(.ref a2), (.ref w5)])) rfl (by rw [hml]; rfl) (Steps.refl _) (argsL := [(.ref a2)]) (rest := []) (lenOf pdV4_1 rfl) rfl (by show 2 * 0 + _ ≤ _; exact Nat.le_of_eq rfl) (hb hby dV4_90) (fun _ _ => ⟨rfl, e14, (by decide : 0 + 0 ≤ _), (by decide : 0 + 0 ≤ _)⟩)
      dsimp only [Pt.U, Pt.locs, Pt.cells, Pt.slots] at X17 l17 y17 z17 st17 hQ17
      subst l17 y17 z17
      obtain ⟨rfl, N17q, hq17⟩ := hQ17
      have N17 := Fr.app N6 N17q
      have pre18 : Go p e below T17 (mkF m 93 #[.val (.ref a1), .val (.ref a2)] [(.int (wF5 w5 a2 w0 w1 w2 w3 w4 w5 w6 w7 w8))]) s₁ (entryFrame m #[(.ref a1), (.ref a2)] 2) := fun t k => pre16 t (st17.trans k)
      have e17 : T17.heap = h0 := hq17
      by_cases hc93 : (wF5 w5 a2 w0 w1 w2 w3 w4 w5 w6 w7 w8) = (0 : Int32)
      · have pre19 : Go p e below T17 (mkF m 100 #[.val (.ref a1), .val (.ref a2)] []) s₁ (entryFrame m #[(.ref a1), (.ref a2)] 2) := fun t k => pre18 t (XS.ifYes X17.here hx rfl (pc0 := 93) (pc' := 100) rfl (hb hby dV4_93) rfl ((if0 _ _).trans (teq hc93).1) (by decide) (by decide) k)
        have pre20 : Go p e below T17 (mkF m 101 #[.val (.ref a1), .val (.ref a2)] [(.int (0 : Int32))]) s₁ (entryFrame m #[(.ref a1), (.ref a2)] 2) := fun t k => pre19 t (by
            show Steps p.tables e below (T17.setTop (mkF m 100 #[.val (.ref a1), .val (.ref a2)] [])) t
            refine XS.iconst X17.here hx rfl (hb hby dV4_100) ?_
            exact k)
        have hnr : Value.int (nar .boolean (0 : Int32)) = (.int (0 : Int32)) := by rfl
        obtain ⟨fs, hr, hrun, hended, hW, hsame⟩ := X17.leave (v := some (.int (0 : Int32))) (fun h => by rw [Bd.returns] at h; cases h)
        refine ⟨_, _, pre20 _ (retN X17 hx (t := .boolean) Bd.returns (by simp) (hb hby dV4_101) (hnr ▸ hr)), hrun, hended, _, _, rfl, ?_, ⟨_, rfl⟩, hW, hsame.mono (by decide) (by decide)⟩
        show QV4 Z a1 a2 w0 w1 w2 w3 w4 w5 w6 w7 w8 r h0 n0 _ T17.heap _
        rw [e17]
        exact ⟨by rw [← hR]; simp [wF4, ha2, ha83, hc93], N17, rfl⟩
      · have pre21 : Go p e below T17 (mkF m 96 #[.val (.ref a1), .val (.ref a2)] []) s₁ (entryFrame m #[(.ref a1), (.ref a2)] 2) := fun t k => pre18 t (XS.ifNo X17.here hx rfl (hb hby dV4_93) rfl ((if0 _ _).trans (feq hc93).1) k)
        have pre22 : Go p e below T17 (mkF m 101 #[.val (.ref a1), .val (.ref a2)] [(.int (1 : Int32))]) s₁ (entryFrame m #[(.ref a1), (.ref a2)] 2) := fun t k => pre21 t (by
            show Steps p.tables e below (T17.setTop (mkF m 96 #[.val (.ref a1), .val (.ref a2)] [])) t
            refine XS.iconst X17.here hx rfl (hb hby dV4_96) ?_
            show Steps p.tables e below (T17.setTop (mkF m 97 #[.val (.ref a1), .val (.ref a2)] [(.int (1 : Int32))])) t
            refine XS.goto X17.here hx rfl (pc0 := 97) (pc' := 101) rfl (hb hby dV4_97) (by decide) (by decide) ?_
            exact k)
        have hnr : Value.int (nar .boolean (1 : Int32)) = (.int (1 : Int32)) := by rfl
        obtain ⟨fs, hr, hrun, hended, hW, hsame⟩ := X17.leave (v := some (.int (1 : Int32))) (fun h => by rw [Bd.returns] at h; cases h)
        refine ⟨_, _, pre22 _ (retN X17 hx (t := .boolean) Bd.returns (by simp) (hb hby dV4_101) (hnr ▸ hr)), hrun, hended, _, _, rfl, ?_, ⟨_, rfl⟩, hW, hsame.mono (by decide) (by decide)⟩
        show QV4 Z a1 a2 w0 w1 w2 w3 w4 w5 w6 w7 w8 r h0 n0 _ T17.heap _
        rw [e17]
        exact ⟨by rw [← hR]; simp [wF4, ha2, ha83, hc93], N17, rfl⟩
theorem dV5_0 : decode prog_13_method_8_code 0 = .ok (.aload_n 0, 1) := by decide +kernel
theorem dV5_1 : decode prog_13_method_8_code 1 = .ok (.aload_n 1, 1) := by decide +kernel
theorem dV5_2 : decode prog_13_method_8_code 2 = .ok (.if_acmp .ne 5, 3) := by decide +kernel
theorem dV5_5 : decode prog_13_method_8_code 5 = .ok (.iconst 1, 1) := by decide +kernel
theorem dV5_6 : decode prog_13_method_8_code 6 = .ok (.ireturn, 1) := by decide +kernel
theorem dV5_7 : decode prog_13_method_8_code 7 = .ok (.aload_n 0, 1) := by decide +kernel
theorem dV5_8 : decode prog_13_method_8_code 8 = .ok (.invokevirtual 90, 3) := by decide +kernel
theorem dV5_11 : decode prog_13_method_8_code 11 = .ok (.tableswitch 127 1 6 #[37, 60, 60, 68, 91, 114], 37) := by decide +kernel
theorem dV5_102 : decode prog_13_method_8_code 102 = .ok (.aload_n 1, 1) := by decide +kernel
theorem dV5_103 : decode prog_13_method_8_code 103 = .ok (.getstatic 22, 3) := by decide +kernel
theorem dV5_106 : decode prog_13_method_8_code 106 = .ok (.if_acmp .eq 13, 3) := by decide +kernel
theorem dV5_109 : decode prog_13_method_8_code 109 = .ok (.getstatic 22, 3) := by decide +kernel
theorem dV5_112 : decode prog_13_method_8_code 112 = .ok (.aload_n 1, 1) := by decide +kernel
theorem dV5_113 : decode prog_13_method_8_code 113 = .ok (.invokevirtual 94, 3) := by decide +kernel
theorem dV5_116 : decode prog_13_method_8_code 116 = .ok (.ifCond .eq 7, 3) := by decide +kernel
theorem dV5_119 : decode prog_13_method_8_code 119 = .ok (.iconst 1, 1) := by decide +kernel
theorem dV5_120 : decode prog_13_method_8_code 120 = .ok (.goto 4, 3) := by decide +kernel
theorem dV5_123 : decode prog_13_method_8_code 123 = .ok (.iconst 0, 1) := by decide +kernel
theorem dV5_124 : decode prog_13_method_8_code 124 = .ok (.ireturn, 1) := by decide +kernel
theorem pnV5 : plainName "com/example/whisker/whisker/PrimitiveType" = true := by first | (simp [plainName, overriddenIn]; done) | decide +kernel
theorem pdV5_0 : parseMethodDescriptor "()I" = some ⟨[], some .int⟩ := by decide +kernel
theorem pdV5_1 : parseMethodDescriptor "(Lcom/example/whisker/whisker/PrimitiveType;)Z" = some ⟨[(.object "com/example/whisker/whisker/PrimitiveType")], some .boolean⟩ := by decide +kernel
theorem efV5 (m : MethodId) (a1 : Addr) (a2 : Addr) : entryFrame m #[(.ref a1), (.ref a2)] 2 = mkF m 0 #[.val (.ref a1), .val (.ref a2)] [] := by first | (simp [entryFrame, mkF, argsToLocals, Value.category]; done) | rfl
def QV5 (Z : State) (a1 : Addr) (a2 : Addr) (w0 : Addr) (w1 : Addr) (w2 : Addr) (w3 : Addr) (w4 : Addr) (w5 : Addr) (w6 : Addr) (w7 : Addr) (w8 : Addr) (r : Int32) (h0 : Heap) (n0 : Nat) (v : Option Value) (h : Heap) (L : List Loc) : Prop := v = some (.int r) ∧ Fr n0 L ∧ h = h0
set_option maxRecDepth 65536 in
set_option maxHeartbeats 40000000 in
theorem rmV5 (l : Launch) (Z : State) (a0 : Array Value) (hw : ∀ d ∈ tables_1, d.before a0 Z = true) (ws : List Jvm.Cond) (a1 : Addr) (a2 : Addr) (w0 : Addr) (w1 : Addr) (w2 : Addr) (w3 : Addr) (w4 : Addr) (w5 : Addr) (w6 : Addr) (w7 : Addr) (w8 : Addr) (r : Int32) (h0 : Heap) (n0 : Nat) (Z0 : n0 ≤ h0.size) (S0 : Sta Z h0 "com/example/whisker/whisker/PrimitiveType" "BOOLEAN" "Lcom/example/whisker/whisker/PrimitiveType;" (.ref w0)) (S1 : Sta Z h0 "com/example/whisker/whisker/PrimitiveType" "BYTE" "Lcom/example/whisker/whisker/PrimitiveType;" (.ref w1)) (S2 : Sta Z h0 "com/example/whisker/whisker/PrimitiveType" "SHORT" "Lcom/example/whisker/whisker/PrimitiveType;" (.ref w2)) (S3 : Sta Z h0 "com/example/whisker/whisker/PrimitiveType" "CHAR" "Lcom/example/whisker/whisker/PrimitiveType;" (.ref w3)) (S4 : Sta Z h0 "com/example/whisker/whisker/PrimitiveType" "INT" "Lcom/example/whisker/whisker/PrimitiveType;" (.ref w4)) (S5 : Sta Z h0 "com/example/whisker/whisker/PrimitiveType" "LONG" "Lcom/example/whisker/whisker/PrimitiveType;" (.ref w5)) (S6 : Sta Z h0 "com/example/whisker/whisker/PrimitiveType" "FLOAT" "Lcom/example/whisker/whisker/PrimitiveType;" (.ref w6)) (S7 : Sta Z h0 "com/example/whisker/whisker/PrimitiveType" "DOUBLE" "Lcom/example/whisker/whisker/PrimitiveType;" (.ref w7)) (S8 : Sta Z h0 "com/example/whisker/whisker/PrimitiveType" "VOID" "Lcom/example/whisker/whisker/PrimitiveType;" (.ref w8)) (E1 : Exa Z h0 a1 "com/example/whisker/whisker/PrimitiveType") (F1 : Fld Z h0 a1 "java/lang/Enum" "ordinal" "I" (.int 5)) (E4 : Exa Z h0 w4 "com/example/whisker/whisker/PrimitiveType") (E5 : Exa Z h0 w5 "com/example/whisker/whisker/PrimitiveType") (E6 : Exa Z h0 w6 "com/example/whisker/whisker/PrimitiveType") (F4 : Fld Z h0 w4 "java/lang/Enum" "ordinal" "I" (.int 4)) (F5 : Fld Z h0 w5 "java/lang/Enum" "ordinal" "I" (.int 5)) (F6 : Fld Z h0 w6 "java/lang/Enum" "ordinal" "I" (.int 6)) (hR : wF5 a1 a2 w0 w1 w2 w3 w4 w5 w6 w7 w8 = r) :
    MetFree l (⟨"com/example/whisker/whisker/PrimitiveType", "widensTo", "(Lcom/example/whisker/whisker/PrimitiveType;)Z"⟩ : MethodName) (head1 (Jvm.Cond.code (⟨"com/example/whisker/whisker/PrimitiveType", "widensTo", "(Lcom/example/whisker/whisker/PrimitiveType;)Z"⟩ : MethodName) prog_13_method_8_code 2 (some .boolean) :: ws) ({ frames := 4, cells := 0, slots := 0, locals := 90 } : Room)) (fun a U => a = #[(.ref a1), (.ref a2)] ∧ Z.Warmed39 U.vm ∧ U.heap = h0) (fun _ _ _ _ _ => True) (fun _ U o U' => ∃ v L, o = .returned v ∧ QV5 Z a1 a2 w0 w1 w2 w3 w4 w5 w6 w7 w8 r h0 n0 v U'.heap L ∧ FrameEnd U o U' L ({ frames := 4, cells := 0, slots := 0, locals := 90 } : Room).cells ({ frames := 4, cells := 0, slots := 0, locals := 90 } : Room).slots) := by
  refine MetFree.of_bodySF (plainFor_of_name pnV5) hisR ?_
  intro p e s m args below meth c s₁ Bd hml0 hP hK
  obtain ⟨rfl, hZ, hh⟩ := hP
  have hx := Bd.exec
  have hby := Bd.bytes
  have hml : c.maxLocals = 2 := hml0
  have hown : s.vm.findClass "com/example/whisker/whisker/PrimitiveType" = some m.cls := findClass_of_methodNamed Bd.named
  have hnm := (name_of_methodNamed Bd.named Bd.method).1
  have X0 : Stand p l e ({ frames := 4, cells := 0, slots := 0, locals := 90 } : Room) s m #[(.ref a1), (.ref a2)] below meth c s₁ [] 0 0 := Stand.of_body Bd
  have e0 : s₁.heap = h0 := by rw [← hh, Bd.state]; rfl
  have N0 := Fr.nil n0
  have pre0 : Go p e below s₁ (mkF m 0 #[.val (.ref a1), .val (.ref a2)] []) s₁ (entryFrame m #[(.ref a1), (.ref a2)] 2) := fun t k => castTop (efV5 m a1 a2) k
  have pre1 : Go p e below s₁ (mkF m 2 #[.val (.ref a1), .val (.ref a2)] [(.ref a2), (.ref a1)]) s₁ (entryFrame m #[(.ref a1), (.ref a2)] 2) := fun t k => pre0 t (by
      show Steps p.tables e below (s₁.setTop (mkF m 0 #[.val (.ref a1), .val (.ref a2)] [])) t
      refine XS.aloadN X0.here hx rfl (hb hby dV5_0) rfl rfl ?_
      show Steps p.tables e below (s₁.setTop (mkF m 1 #[.val (.ref a1), .val (.ref a2)] [(.ref a1)])) t
      refine XS.aloadN X0.here hx rfl (hb hby dV5_1) rfl rfl ?_
      exact k)
  by_cases ha2 : a1 = a2
  · have pre2 : Go p e below s₁ (mkF m 5 #[.val (.ref a1), .val (.ref a2)] []) s₁ (entryFrame m #[(.ref a1), (.ref a2)] 2) := fun t k => pre1 t (Jvm.RoadKit.acmp (g := (mkF m 2 #[.val (.ref a1), .val (.ref a2)] [(.ref a2), (.ref a1)])) X0 hx rfl rfl rfl (pc0 := 2) (pc' := 5) (same := true) rfl (hb hby dV5_2) rfl (decide_eq_true (congrArg Value.ref ha2)) (by decide) (by decide) k)
    have pre3 : Go p e below s₁ (mkF m 6 #[.val (.ref a1), .val (.ref a2)] [(.int (1 : Int32))]) s₁ (entryFrame m #[(.ref a1), (.ref a2)] 2) := fun t k => pre2 t (by
        show Steps p.tables e below (s₁.setTop (mkF m 5 #[.val (.ref a1), .val (.ref a2)] [])) t
        refine XS.iconst X0.here hx rfl (hb hby dV5_5) ?_
        exact k)
    have hnr : Value.int (nar .boolean (1 : Int32)) = (.int (1 : Int32)) := by rfl
    obtain ⟨fs, hr, hrun, hended, hW, hsame⟩ := X0.leave (v := some (.int (1 : Int32))) (fun h => by rw [Bd.returns] at h; cases h)
    refine ⟨_, _, pre3 _ (retN X0 hx (t := .boolean) Bd.returns (by simp) (hb hby dV5_6) (hnr ▸ hr)), hrun, hended, _, _, rfl, ?_, ⟨_, rfl⟩, hW, hsame.mono (by decide) (by decide)⟩
    show QV5 Z a1 a2 w0 w1 w2 w3 w4 w5 w6 w7 w8 r h0 n0 _ s₁.heap _
    rw [e0]
    exact ⟨by rw [← hR]; simp [wF5, ha2], N0, rfl⟩
  · have pre4 : Go p e below s₁ (mkF m 7 #[.val (.ref a1), .val (.ref a2)] []) s₁ (entryFrame m #[(.ref a1), (.ref a2)] 2) := fun t k => pre1 t (Jvm.RoadKit.acmp (g := (mkF m 2 #[.val (.ref a1), .val (.ref a2)] [(.ref a2), (.ref a1)])) X0 hx rfl rfl rfl (pc0 := 2) (pc' := 7) (same := false) rfl (hb hby dV5_2) rfl (decide_eq_false fun q => ha2 (Value.ref.inj q)) (by decide) (by decide) k)
    have pre5 : Go p e below s₁ (mkF m 8 #[.val (.ref a1), .val (.ref a2)] [(.ref a1)]) s₁ (entryFrame m #[(.ref a1), (.ref a2)] 2) := fun t k => pre4 t (by
        show Steps p.tables e below (s₁.setTop (mkF m 7 #[.val (.ref a1), .val (.ref a2)] [])) t
        refine XS.aloadN X0.here hx rfl (hb hby dV5_7) rfl rfl ?_
        exact k)
    obtain ⟨cq6, kq6, q6a, q6b, q6c⟩ := isOf hZ e0 E1
    obtain ⟨_, _, ⟨T6, L6, k6, n6⟩, -, X6, ⟨Lc6, hQ6, l6, y6, z6⟩, st6⟩ := X0.virtualBackUp hx (x := (⟨"com/example/whisker/whisker/PrimitiveType", "ordinal", "()I"⟩ : MethodName)) (y := (⟨"java/lang/Enum", "ordinal", "()I"⟩ : MethodName)) (owner := "java/lang/Enum") hown (mvT hZ (hw _ (List.mem_of_getElem? (i := 18) rfl))) (mvT hZ (hw _ (List.mem_of_getElem? (i := 19) rfl))) (mvT hZ (hw _ (List.mem_of_getElem? (i := 20) rfl))) (by decide) (mvT hZ (hw _ (List.mem_of_getElem? (i := 22) rfl))) (mvT hZ (hw _ (List.mem_of_getElem? (i := 21) rfl))) (backOf (W := 0) (rmO l Z a0 hw [] a1 (5 : Int32) h0 n0 Z0 F1) hZ (hw _ (List.mem_of_getElem? (i := 24) rfl)) (hw _ (List.mem_of_getElem? (i := 23) rfl)) (by decide) (by decide)) q6a q6c (g := (mkF m 8 #[.val (.ref a1), .val (.ref a2)] [(.ref a1)])) rfl (by rw [hml]; rfl) (Steps.refl _) (argsL := []) (rest := []) (lenOf pdV5_0 rfl) rfl (by show 2 * 0 + _ ≤ _; exact Nat.le_of_eq rfl) (hb hby dV5_8) (fun _ _ => ⟨rfl, e0, (by decide : 0 + 0 ≤ _), (by decide : 0 + 0 ≤ _)⟩)
    dsimp only [Pt.U, Pt.locs, Pt.cells, Pt.slots] at X6 l6 y6 z6 st6 hQ6
    subst l6 y6 z6
    obtain ⟨rfl, N6q, hq6⟩ := hQ6
    have N6 := Fr.app N0 N6q
    have pre7 : Go p e below T6 (mkF m 11 #[.val (.ref a1), .val (.ref a2)] [(.int (5 : Int32))]) s₁ (entryFrame m #[(.ref a1), (.ref a2)] 2) := fun t k => pre5 t (st6.trans k)
    have e6 : T6.heap = h0 := hq6
    have pre8 : Go p e below T6 (mkF m 103 #[.val (.ref a1), .val (.ref a2)] [(.ref a2)]) s₁ (entryFrame m #[(.ref a1), (.ref a2)] 2) := fun t k => pre7 t (by
        show Steps p.tables e below (T6.setTop (mkF m 11 #[.val (.ref a1), .val (.ref a2)] [(.int (5 : Int32))])) t
        refine XS.tswIn X6.here hx rfl (pc0 := 11) (pc' := 102) (o := 91) rfl (hb hby dV5_11) rfl (by decide) (by decide) (by decide) (by decide) ?_
        show Steps p.tables e below (T6.setTop (mkF m 102 #[.val (.ref a1), .val (.ref a2)] [])) t
        refine XS.aloadN X6.here hx rfl (hb hby dV5_102) rfl rfl ?_
        exact k)
    obtain ⟨T9, X9, e9, st9⟩ := getS2 X6 hx hZ hown (host := "") (Or.inl (hw _ (List.mem_of_getElem? (i := 31) rfl))) Via.refl e6 S6 (g := (mkF m 103 #[.val (.ref a1), .val (.ref a2)] [(.ref a2)])) rfl (hb hby dV5_103)
    have pre10 : Go p e below T9 (mkF m 106 #[.val (.ref a1), .val (.ref a2)] [(.ref w6), (.ref a2)]) s₁ (entryFrame m #[(.ref a1), (.ref a2)] 2) := fun t k => pre8 t (st9 t k)
    by_cases ha106 : a2 = w6
    · have pre11 : Go p e below T9 (mkF m 119 #[.val (.ref a1), .val (.ref a2)] []) s₁ (entryFrame m #[(.ref a1), (.ref a2)] 2) := fun t k => pre10 t (Jvm.RoadKit.acmp (g := (mkF m 106 #[.val (.ref a1), .val (.ref a2)] [(.ref w6), (.ref a2)])) X9 hx rfl rfl rfl (pc0 := 106) (pc' := 119) (same := true) rfl (hb hby dV5_106) rfl (decide_eq_true (congrArg Value.ref ha106)) (by decide) (by decide) k)
      have pre12 : Go p e below T9 (mkF m 124 #[.val (.ref a1), .val (.ref a2)] [(.int (1 : Int32))]) s₁ (entryFrame m #[(.ref a1), (.ref a2)] 2) := fun t k => pre11 t (by
          show Steps p.tables e below (T9.setTop (mkF m 119 #[.val (.ref a1), .val (.ref a2)] [])) t
          refine XS.iconst X9.here hx rfl (hb hby dV5_119) ?_
          show Steps p.tables e below (T9.setTop (mkF m 120 #[.val (.ref a1), .val (.ref a2)] [(.int (1 : Int32))])) t
          refine XS.goto X9.here hx rfl (pc0 := 120) (pc' := 124) rfl (hb hby dV5_120) (by decide) (by decide) ?_
          exact k)
      have hnr : Value.int (nar .boolean (1 : Int32)) = (.int (1 : Int32)) := by rfl
      obtain ⟨fs, hr, hrun, hended, hW, hsame⟩ := X9.leave (v := some (.int (1 : Int32))) (fun h => by rw [Bd.returns] at h; cases h)
      refine ⟨_, _, pre12 _ (retN X9 hx (t := .boolean) Bd.returns (by simp) (hb hby dV5_124) (hnr ▸ hr)), hrun, hended, _, _, rfl, ?_, ⟨_, rfl⟩, hW, hsame.mono (by decide) (by decide)⟩
      show QV5 Z a1 a2 w0 w1 w2 w3 w4 w5 w6 w7 w8 r h0 n0 _ T9.heap _
      rw [e9]
      exact ⟨by rw [← hR]; simp [wF5, ha2, ha106], N6, rfl⟩
    · have pre13 : Go p e below T9 (mkF m 109 #[.val (.ref a1), .val (.ref a2)] []) s₁ (entryFrame m #[(.ref a1), (.ref a2)] 2) := fun t k => pre10 t (Jvm.RoadKit.acmp (g := (mkF m 106 #[.val (.ref a1), .val (.ref a2)] [(.ref w6), (.ref a2)])) X9 hx rfl rfl rfl (pc0 := 106) (pc' := 109) (same := false) rfl (hb hby dV5_106) rfl (decide_eq_false fun q => ha106 (Value.ref.inj q)) (by decide) (by decide) k)
      obtain ⟨T14, X14, e14, st14⟩ := getS2 X9 hx hZ hown (host := "") (Or.inl (hw _ (List.mem_of_getElem? (i := 31) rfl))) Via.refl e9 S6 (g := (mkF m 109 #[.val (.ref a1), .val (.ref a2)] [])) rfl (hb hby dV5_109)
      have pre15 : Go p e below T14 (mkF m 112 #[.val (.ref a1), .val (.ref a2)] [(.ref w6)]) s₁ (entryFrame m #[(.ref a1), (.ref a2)] 2) := fun t k => pre13 t (st14 t k)
      have pre16 : Go p e below T14 (mkF m 113 #[.val (.ref a1), .val (.ref a2)] [(.ref a2), (.ref w6)]) s₁ (entryFrame m #[(.ref a1), (.ref a2)] 2) := fun t k => pre15 t (by
          show Steps p.tables e below (T14.setTop (mkF m 112 #[.val (.ref a1), .val (.ref a2)] [(.ref w6)])) t
          refine XS.aloadN X14.here hx rfl (hb hby dV5_112) rfl rfl ?_
          exact k)
      obtain ⟨cq17, kq17, q17a, q17b, q17c⟩ := isOf hZ e14 E6
      obtain ⟨_, _, ⟨T17, L17, k17, n17⟩, -, X17, ⟨Lc17, hQ17, l17, y17, z17⟩, st17⟩ := X14.virtualBack hx (y := (⟨"com/example/whisker/whisker/PrimitiveType", "widensTo", "(Lcom/example/whisker/whisker/PrimitiveType;)Z"⟩ : MethodName)) (z := (⟨"com/example/whisker/whisker/PrimitiveType", "widensTo", "(Lcom/example/whisker/whisker/PrimitiveType;)Z"⟩ : MethodName)) hown (mvT hZ (hw _ (List.mem_of_getElem? (i := 33) rfl))) (mvT hZ (hw _ (List.mem_of_getElem? (i := 14) rfl))) (notFace_of_selects (args := #[]) (mvT hZ (hw _ (List.mem_of_getElem? (i := 16) rfl)))) (mvT hZ (hw _ (List.mem_of_getElem? (i := 16) rfl))) (mvT hZ (hw _ (List.mem_of_getElem? (i := 15) rfl))) (by decide) (backOf (W := 0) (rmW6 l Z a0 hw [] w6 a2 w0 w1 w2 w3 w4 w5 w6 w7 w8 (wF6 w6 a2 w0 w1 w2 w3 w4 w5 w6 w7 w8) h0 n0 Z0 S0 S1 S2 S3 S4 S5 S6 S7 S8 E6 F6 E4 E5 E6 F4 F5 F6 rfl) hZ (hw _ (List.mem_of_getElem? (i := 17) rfl)) (hw _ (List.mem_of_getElem? (i := 6) rfl)) (by decide) (by decide)) q17a q17c (g := (mkF m 113 #[.val (.ref a1), .val (.ref a2)] [(.ref a2), (.ref w6)])) rfl (by rw [hml]; rfl) (Steps.refl _) (argsL := [(.ref a2)]) (rest := []) (lenOf pdV5_1 rfl) rfl (by show 2 * 0 + _ ≤ _; exact Nat.le_of_eq rfl) (hb hby dV5_113) (fun _ _ => ⟨rfl, e14, (by decide : 0 + 0 ≤ _), (by decide : 0 + 0 ≤ _)⟩)
      dsimp only [Pt.U, Pt.locs, Pt.cells, Pt.slots] at X17 l17 y17 z17 st17 hQ17
      subst l17 y17 z17
      obtain ⟨rfl, N17q, hq17⟩ := hQ17
      have N17 := Fr.app N6 N17q
      have pre18 : Go p e below T17 (mkF m 116 #[.val (.ref a1), .val (.ref a2)] [(.int (wF6 w6 a2 w0 w1 w2 w3 w4 w5 w6 w7 w8))]) s₁ (entryFrame m #[(.ref a1), (.ref a2)] 2) := fun t k => pre16 t (st17.trans k)
      have e17 : T17.heap = h0 := hq17
      by_cases hc116 : (wF6 w6 a2 w0 w1 w2 w3 w4 w5 w6 w7 w8) = (0 : Int32)
      · have pre19 : Go p e below T17 (mkF m 123 #[.val (.ref a1), .val (.ref a2)] []) s₁ (entryFrame m #[(.ref a1), (.ref a2)] 2) := fun t k => pre18 t (XS.ifYes X17.here hx rfl (pc0 := 116) (pc' := 123) rfl (hb hby dV5_116) rfl ((if0 _ _).trans (teq hc116).1) (by decide) (by decide) k)
        have pre20 : Go p e below T17 (mkF m 124 #[.val (.ref a1), .val (.ref a2)] [(.int (0 : Int32))]) s₁ (entryFrame m #[(.ref a1), (.ref a2)] 2) := fun t k => pre19 t (by
            show Steps p.tables e below (T17.setTop (mkF m 123 #[.val (.ref a1), .val (.ref a2)] [])) t
            refine XS.iconst X17.here hx rfl (hb hby dV5_123) ?_
            exact k)
        have hnr : Value.int (nar .boolean (0 : Int32)) = (.int (0 : Int32)) := by rfl
        obtain ⟨fs, hr, hrun, hended, hW, hsame⟩ := X17.leave (v := some (.int (0 : Int32))) (fun h => by rw [Bd.returns] at h; cases h)
        refine ⟨_, _, pre20 _ (retN X17 hx (t := .boolean) Bd.returns (by simp) (hb hby dV5_124) (hnr ▸ hr)), hrun, hended, _, _, rfl, ?_, ⟨_, rfl⟩, hW, hsame.mono (by decide) (by decide)⟩
        show QV5 Z a1 a2 w0 w1 w2 w3 w4 w5 w6 w7 w8 r h0 n0 _ T17.heap _
        rw [e17]
        exact ⟨by rw [← hR]; simp [wF5, ha2, ha106, hc116], N17, rfl⟩
      · have pre21 : Go p e below T17 (mkF m 119 #[.val (.ref a1), .val (.ref a2)] []) s₁ (entryFrame m #[(.ref a1), (.ref a2)] 2) := fun t k => pre18 t (XS.ifNo X17.here hx rfl (hb hby dV5_116) rfl ((if0 _ _).trans (feq hc116).1) k)
        have pre22 : Go p e below T17 (mkF m 124 #[.val (.ref a1), .val (.ref a2)] [(.int (1 : Int32))]) s₁ (entryFrame m #[(.ref a1), (.ref a2)] 2) := fun t k => pre21 t (by
            show Steps p.tables e below (T17.setTop (mkF m 119 #[.val (.ref a1), .val (.ref a2)] [])) t
            refine XS.iconst X17.here hx rfl (hb hby dV5_119) ?_
            show Steps p.tables e below (T17.setTop (mkF m 120 #[.val (.ref a1), .val (.ref a2)] [(.int (1 : Int32))])) t
            refine XS.goto X17.here hx rfl (pc0 := 120) (pc' := 124) rfl (hb hby dV5_120) (by decide) (by decide) ?_
            exact k)
        have hnr : Value.int (nar .boolean (1 : Int32)) = (.int (1 : Int32)) := by rfl
        obtain ⟨fs, hr, hrun, hended, hW, hsame⟩ := X17.leave (v := some (.int (1 : Int32))) (fun h => by rw [Bd.returns] at h; cases h)
        refine ⟨_, _, pre22 _ (retN X17 hx (t := .boolean) Bd.returns (by simp) (hb hby dV5_124) (hnr ▸ hr)), hrun, hended, _, _, rfl, ?_, ⟨_, rfl⟩, hW, hsame.mono (by decide) (by decide)⟩
        show QV5 Z a1 a2 w0 w1 w2 w3 w4 w5 w6 w7 w8 r h0 n0 _ T17.heap _
        rw [e17]
        exact ⟨by rw [← hR]; simp [wF5, ha2, ha106, hc116], N17, rfl⟩
theorem dV6_0 : decode prog_13_method_8_code 0 = .ok (.aload_n 0, 1) := by decide +kernel
theorem dV6_1 : decode prog_13_method_8_code 1 = .ok (.aload_n 1, 1) := by decide +kernel
theorem dV6_2 : decode prog_13_method_8_code 2 = .ok (.if_acmp .ne 5, 3) := by decide +kernel
theorem dV6_5 : decode prog_13_method_8_code 5 = .ok (.iconst 1, 1) := by decide +kernel
theorem dV6_6 : decode prog_13_method_8_code 6 = .ok (.ireturn, 1) := by decide +kernel
theorem dV6_7 : decode prog_13_method_8_code 7 = .ok (.aload_n 0, 1) := by decide +kernel
theorem dV6_8 : decode prog_13_method_8_code 8 = .ok (.invokevirtual 90, 3) := by decide +kernel
theorem dV6_11 : decode prog_13_method_8_code 11 = .ok (.tableswitch 127 1 6 #[37, 60, 60, 68, 91, 114], 37) := by decide +kernel
theorem dV6_125 : decode prog_13_method_8_code 125 = .ok (.aload_n 1, 1) := by decide +kernel
theorem dV6_126 : decode prog_13_method_8_code 126 = .ok (.getstatic 25, 3) := by decide +kernel
theorem dV6_129 : decode prog_13_method_8_code 129 = .ok (.if_acmp .ne 7, 3) := by decide +kernel
theorem dV6_132 : decode prog_13_method_8_code 132 = .ok (.iconst 1, 1) := by decide +kernel
theorem dV6_133 : decode prog_13_method_8_code 133 = .ok (.goto 4, 3) := by decide +kernel
theorem dV6_136 : decode prog_13_method_8_code 136 = .ok (.iconst 0, 1) := by decide +kernel
theorem dV6_137 : decode prog_13_method_8_code 137 = .ok (.ireturn, 1) := by decide +kernel
theorem pnV6 : plainName "com/example/whisker/whisker/PrimitiveType" = true := by first | (simp [plainName, overriddenIn]; done) | decide +kernel
theorem pdV6_0 : parseMethodDescriptor "()I" = some ⟨[], some .int⟩ := by decide +kernel
theorem efV6 (m : MethodId) (a1 : Addr) (a2 : Addr) : entryFrame m #[(.ref a1), (.ref a2)] 2 = mkF m 0 #[.val (.ref a1), .val (.ref a2)] [] := by first | (simp [entryFrame, mkF, argsToLocals, Value.category]; done) | rfl
def QV6 (Z : State) (a1 : Addr) (a2 : Addr) (w0 : Addr) (w1 : Addr) (w2 : Addr) (w3 : Addr) (w4 : Addr) (w5 : Addr) (w6 : Addr) (w7 : Addr) (w8 : Addr) (r : Int32) (h0 : Heap) (n0 : Nat) (v : Option Value) (h : Heap) (L : List Loc) : Prop := v = some (.int r) ∧ Fr n0 L ∧ h = h0
set_option maxRecDepth 65536 in
set_option maxHeartbeats 40000000 in
theorem rmV6 (l : Launch) (Z : State) (a0 : Array Value) (hw : ∀ d ∈ tables_1, d.before a0 Z = true) (ws : List Jvm.Cond) (a1 : Addr) (a2 : Addr) (w0 : Addr) (w1 : Addr) (w2 : Addr) (w3 : Addr) (w4 : Addr) (w5 : Addr) (w6 : Addr) (w7 : Addr) (w8 : Addr) (r : Int32) (h0 : Heap) (n0 : Nat) (Z0 : n0 ≤ h0.size) (S0 : Sta Z h0 "com/example/whisker/whisker/PrimitiveType" "BOOLEAN" "Lcom/example/whisker/whisker/PrimitiveType;" (.ref w0)) (S1 : Sta Z h0 "com/example/whisker/whisker/PrimitiveType" "BYTE" "Lcom/example/whisker/whisker/PrimitiveType;" (.ref w1)) (S2 : Sta Z h0 "com/example/whisker/whisker/PrimitiveType" "SHORT" "Lcom/example/whisker/whisker/PrimitiveType;" (.ref w2)) (S3 : Sta Z h0 "com/example/whisker/whisker/PrimitiveType" "CHAR" "Lcom/example/whisker/whisker/PrimitiveType;" (.ref w3)) (S4 : Sta Z h0 "com/example/whisker/whisker/PrimitiveType" "INT" "Lcom/example/whisker/whisker/PrimitiveType;" (.ref w4)) (S5 : Sta Z h0 "com/example/whisker/whisker/PrimitiveType" "LONG" "Lcom/example/whisker/whisker/PrimitiveType;" (.ref w5)) (S6 : Sta Z h0 "com/example/whisker/whisker/PrimitiveType" "FLOAT" "Lcom/example/whisker/whisker/PrimitiveType;" (.ref w6)) (S7 : Sta Z h0 "com/example/whisker/whisker/PrimitiveType" "DOUBLE" "Lcom/example/whisker/whisker/PrimitiveType;" (.ref w7)) (S8 : Sta Z h0 "com/example/whisker/whisker/PrimitiveType" "VOID" "Lcom/example/whisker/whisker/PrimitiveType;" (.ref w8)) (E1 : Exa Z h0 a1 "com/example/whisker/whisker/PrimitiveType") (F1 : Fld Z h0 a1 "java/lang/Enum" "ordinal" "I" (.int 6)) (E4 : Exa Z h0 w4 "com/example/whisker/whisker/PrimitiveType") (E5 : Exa Z h0 w5 "com/example/whisker/whisker/PrimitiveType") (E6 : Exa Z h0 w6 "com/example/whisker/whisker/PrimitiveType") (F4 : Fld Z h0 w4 "java/lang/Enum" "ordinal" "I" (.int 4)) (F5 : Fld Z h0 w5 "java/lang/Enum" "ordinal" "I" (.int 5)) (F6 : Fld Z h0 w6 "java/lang/Enum" "ordinal" "I" (.int 6)) (hR : wF6 a1 a2 w0 w1 w2 w3 w4 w5 w6 w7 w8 = r) :
    MetFree l (⟨"com/example/whisker/whisker/PrimitiveType", "widensTo", "(Lcom/example/whisker/whisker/PrimitiveType;)Z"⟩ : MethodName) (head1 (Jvm.Cond.code (⟨"com/example/whisker/whisker/PrimitiveType", "widensTo", "(Lcom/example/whisker/whisker/PrimitiveType;)Z"⟩ : MethodName) prog_13_method_8_code 2 (some .boolean) :: ws) ({ frames := 4, cells := 0, slots := 0, locals := 90 } : Room)) (fun a U => a = #[(.ref a1), (.ref a2)] ∧ Z.Warmed39 U.vm ∧ U.heap = h0) (fun _ _ _ _ _ => True) (fun _ U o U' => ∃ v L, o = .returned v ∧ QV6 Z a1 a2 w0 w1 w2 w3 w4 w5 w6 w7 w8 r h0 n0 v U'.heap L ∧ FrameEnd U o U' L ({ frames := 4, cells := 0, slots := 0, locals := 90 } : Room).cells ({ frames := 4, cells := 0, slots := 0, locals := 90 } : Room).slots) := by
  refine MetFree.of_bodySF (plainFor_of_name pnV6) hisR ?_
  intro p e s m args below meth c s₁ Bd hml0 hP hK
  obtain ⟨rfl, hZ, hh⟩ := hP
  have hx := Bd.exec
  have hby := Bd.bytes
  have hml : c.maxLocals = 2 := hml0
  have hown : s.vm.findClass "com/example/whisker/whisker/PrimitiveType" = some m.cls := findClass_of_methodNamed Bd.named
  have hnm := (name_of_methodNamed Bd.named Bd.method).1
  have X0 : Stand p l e ({ frames := 4, cells := 0, slots := 0, locals := 90 } : Room) s m #[(.ref a1), (.ref a2)] below meth c s₁ [] 0 0 := Stand.of_body Bd
  have e0 : s₁.heap = h0 := by rw [← hh, Bd.state]; rfl
  have N0 := Fr.nil n0
  have pre0 : Go p e below s₁ (mkF m 0 #[.val (.ref a1), .val (.ref a2)] []) s₁ (entryFrame m #[(.ref a1), (.ref a2)] 2) := fun t k => castTop (efV6 m a1 a2) k
  have pre1 : Go p e below s₁ (mkF m 2 #[.val (.ref a1), .val (.ref a2)] [(.ref a2), (.ref a1)]) s₁ (entryFrame m #[(.ref a1), (.ref a2)] 2) := fun t k => pre0 t (by
      show Steps p.tables e below (s₁.setTop (mkF m 0 #[.val (.ref a1), .val (.ref a2)] [])) t
      refine XS.aloadN X0.here hx rfl (hb hby dV6_0) rfl rfl ?_
      show Steps p.tables e below (s₁.setTop (mkF m 1 #[.val (.ref a1), .val (.ref a2)] [(.ref a1)])) t
      refine XS.aloadN X0.here hx rfl (hb hby dV6_1) rfl rfl ?_
      exact k)
  by_cases ha2 : a1 = a2
  · have pre2 : Go p e below s₁ (mkF m 5 #[.val (.ref a1), .val (.ref a2)] []) s₁ (entryFrame m #[(.ref a1), (.ref a2)] 2) := fun t k => pre1 t (Jvm.RoadKit.acmp (g := (mkF m 2 #[.val (.ref a1), .val (.ref a2)] [(.ref a2), (.ref a1)])) X0 hx rfl rfl rfl (pc0 := 2) (pc' := 5) (same := true) rfl (hb hby dV6_2) rfl (decide_eq_true (congrArg Value.ref ha2)) (by decide) (by decide) k)
    have pre3 : Go p e below s₁ (mkF m 6 #[.val (.ref a1), .val (.ref a2)] [(.int (1 : Int32))]) s₁ (entryFrame m #[(.ref a1), (.ref a2)] 2) := fun t k => pre2 t (by
        show Steps p.tables e below (s₁.setTop (mkF m 5 #[.val (.ref a1), .val (.ref a2)] [])) t
        refine XS.iconst X0.here hx rfl (hb hby dV6_5) ?_
        exact k)
    have hnr : Value.int (nar .boolean (1 : Int32)) = (.int (1 : Int32)) := by rfl
    obtain ⟨fs, hr, hrun, hended, hW, hsame⟩ := X0.leave (v := some (.int (1 : Int32))) (fun h => by rw [Bd.returns] at h; cases h)
    refine ⟨_, _, pre3 _ (retN X0 hx (t := .boolean) Bd.returns (by simp) (hb hby dV6_6) (hnr ▸ hr)), hrun, hended, _, _, rfl, ?_, ⟨_, rfl⟩, hW, hsame.mono (by decide) (by decide)⟩
    show QV6 Z a1 a2 w0 w1 w2 w3 w4 w5 w6 w7 w8 r h0 n0 _ s₁.heap _
    rw [e0]
    exact ⟨by rw [← hR]; simp [wF6, ha2], N0, rfl⟩
  · have pre4 : Go p e below s₁ (mkF m 7 #[.val (.ref a1), .val (.ref a2)] []) s₁ (entryFrame m #[(.ref a1), (.ref a2)] 2) := fun t k => pre1 t (Jvm.RoadKit.acmp (g := (mkF m 2 #[.val (.ref a1), .val (.ref a2)] [(.ref a2), (.ref a1)])) X0 hx rfl rfl rfl (pc0 := 2) (pc' := 7) (same := false) rfl (hb hby dV6_2) rfl (decide_eq_false fun q => ha2 (Value.ref.inj q)) (by decide) (by decide) k)
    have pre5 : Go p e below s₁ (mkF m 8 #[.val (.ref a1), .val (.ref a2)] [(.ref a1)]) s₁ (entryFrame m #[(.ref a1), (.ref a2)] 2) := fun t k => pre4 t (by
        show Steps p.tables e below (s₁.setTop (mkF m 7 #[.val (.ref a1), .val (.ref a2)] [])) t
        refine XS.aloadN X0.here hx rfl (hb hby dV6_7) rfl rfl ?_
        exact k)
    obtain ⟨cq6, kq6, q6a, q6b, q6c⟩ := isOf hZ e0 E1
    obtain ⟨_, _, ⟨T6, L6, k6, n6⟩, -, X6, ⟨Lc6, hQ6, l6, y6, z6⟩, st6⟩ := X0.virtualBackUp hx (x := (⟨"com/example/whisker/whisker/PrimitiveType", "ordinal", "()I"⟩ : MethodName)) (y := (⟨"java/lang/Enum", "ordinal", "()I"⟩ : MethodName)) (owner := "java/lang/Enum") hown (mvT hZ (hw _ (List.mem_of_getElem? (i := 18) rfl))) (mvT hZ (hw _ (List.mem_of_getElem? (i := 19) rfl))) (mvT hZ (hw _ (List.mem_of_getElem? (i := 20) rfl))) (by decide) (mvT hZ (hw _ (List.mem_of_getElem? (i := 22) rfl))) (mvT hZ (hw _ (List.mem_of_getElem? (i := 21) rfl))) (backOf (W := 0) (rmO l Z a0 hw [] a1 (6 : Int32) h0 n0 Z0 F1) hZ (hw _ (List.mem_of_getElem? (i := 24) rfl)) (hw _ (List.mem_of_getElem? (i := 23) rfl)) (by decide) (by decide)) q6a q6c (g := (mkF m 8 #[.val (.ref a1), .val (.ref a2)] [(.ref a1)])) rfl (by rw [hml]; rfl) (Steps.refl _) (argsL := []) (rest := []) (lenOf pdV6_0 rfl) rfl (by show 2 * 0 + _ ≤ _; exact Nat.le_of_eq rfl) (hb hby dV6_8) (fun _ _ => ⟨rfl, e0, (by decide : 0 + 0 ≤ _), (by decide : 0 + 0 ≤ _)⟩)
    dsimp only [Pt.U, Pt.locs, Pt.cells, Pt.slots] at X6 l6 y6 z6 st6 hQ6
    subst l6 y6 z6
    obtain ⟨rfl, N6q, hq6⟩ := hQ6
    have N6 := Fr.app N0 N6q
    have pre7 : Go p e below T6 (mkF m 11 #[.val (.ref a1), .val (.ref a2)] [(.int (6 : Int32))]) s₁ (entryFrame m #[(.ref a1), (.ref a2)] 2) := fun t k => pre5 t (st6.trans k)
    have e6 : T6.heap = h0 := hq6
    have pre8 : Go p e below T6 (mkF m 126 #[.val (.ref a1), .val (.ref a2)] [(.ref a2)]) s₁ (entryFrame m #[(.ref a1), (.ref a2)] 2) := fun t k => pre7 t (by
        show Steps p.tables e below (T6.setTop (mkF m 11 #[.val (.ref a1), .val (.ref a2)] [(.int (6 : Int32))])) t
        refine XS.tswIn X6.here hx rfl (pc0 := 11) (pc' := 125) (o := 114) rfl (hb hby dV6_11) rfl (by decide) (by decide) (by decide) (by decide) ?_
        show Steps p.tables e below (T6.setTop (mkF m 125 #[.val (.ref a1), .val (.ref a2)] [])) t
        refine XS.aloadN X6.here hx rfl (hb hby dV6_125) rfl rfl ?_
        exact k)
    obtain ⟨T9, X9, e9, st9⟩ := getS2 X6 hx hZ hown (host := "") (Or.inl (hw _ (List.mem_of_getElem? (i := 34) rfl))) Via.refl e6 S7 (g := (mkF m 126 #[.val (.ref a1), .val (.ref a2)] [(.ref a2)])) rfl (hb hby dV6_126)
    have pre10 : Go p e below T9 (mkF m 129 #[.val (.ref a1), .val (.ref a2)] [(.ref w7), (.ref a2)]) s₁ (entryFrame m #[(.ref a1), (.ref a2)] 2) := fun t k => pre8 t (st9 t k)
    by_cases ha129 : a2 = w7
    · have pre11 : Go p e below T9 (mkF m 132 #[.val (.ref a1), .val (.ref a2)] []) s₁ (entryFrame m #[(.ref a1), (.ref a2)] 2) := fun t k => pre10 t (Jvm.RoadKit.acmp (g := (mkF m 129 #[.val (.ref a1), .val (.ref a2)] [(.ref w7), (.ref a2)])) X9 hx rfl rfl rfl (pc0 := 129) (pc' := 132) (same := true) rfl (hb hby dV6_129) rfl (decide_eq_true (congrArg Value.ref ha129)) (by decide) (by decide) k)
      have pre12 : Go p e below T9 (mkF m 137 #[.val (.ref a1), .val (.ref a2)] [(.int (1 : Int32))]) s₁ (entryFrame m #[(.ref a1), (.ref a2)] 2) := fun t k => pre11 t (by
          show Steps p.tables e below (T9.setTop (mkF m 132 #[.val (.ref a1), .val (.ref a2)] [])) t
          refine XS.iconst X9.here hx rfl (hb hby dV6_132) ?_
          show Steps p.tables e below (T9.setTop (mkF m 133 #[.val (.ref a1), .val (.ref a2)] [(.int (1 : Int32))])) t
          refine XS.goto X9.here hx rfl (pc0 := 133) (pc' := 137) rfl (hb hby dV6_133) (by decide) (by decide) ?_
          exact k)
      have hnr : Value.int (nar .boolean (1 : Int32)) = (.int (1 : Int32)) := by rfl
      obtain ⟨fs, hr, hrun, hended, hW, hsame⟩ := X9.leave (v := some (.int (1 : Int32))) (fun h => by rw [Bd.returns] at h; cases h)
      refine ⟨_, _, pre12 _ (retN X9 hx (t := .boolean) Bd.returns (by simp) (hb hby dV6_137) (hnr ▸ hr)), hrun, hended, _, _, rfl, ?_, ⟨_, rfl⟩, hW, hsame.mono (by decide) (by decide)⟩
      show QV6 Z a1 a2 w0 w1 w2 w3 w4 w5 w6 w7 w8 r h0 n0 _ T9.heap _
      rw [e9]
      exact ⟨by rw [← hR]; simp [wF6, ha2, ha129], N6, rfl⟩
    · have pre13 : Go p e below T9 (mkF m 136 #[.val (.ref a1), .val (.ref a2)] []) s₁ (entryFrame m #[(.ref a1), (.ref a2)] 2) := fun t k => pre10 t (Jvm.RoadKit.acmp (g := (mkF m 129 #[.val (.ref a1), .val (.ref a2)] [(.ref w7), (.ref a2)])) X9 hx rfl rfl rfl (pc0 := 129) (pc' := 136) (same := false) rfl (hb hby dV6_129) rfl (decide_eq_false fun q => ha129 (Value.ref.inj q)) (by decide) (by decide) k)
      have pre14 : Go p e below T9 (mkF m 137 #[.val (.ref a1), .val (.ref a2)] [(.int (0 : Int32))]) s₁ (entryFrame m #[(.ref a1), (.ref a2)] 2) := fun t k => pre13 t (by
          show Steps p.tables e below (T9.setTop (mkF m 136 #[.val (.ref a1), .val (.ref a2)] [])) t
          refine XS.iconst X9.here hx rfl (hb hby dV6_136) ?_
          exact k)
      have hnr : Value.int (nar .boolean (0 : Int32)) = (.int (0 : Int32)) := by rfl
      obtain ⟨fs, hr, hrun, hended, hW, hsame⟩ := X9.leave (v := some (.int (0 : Int32))) (fun h => by rw [Bd.returns] at h; cases h)
      refine ⟨_, _, pre14 _ (retN X9 hx (t := .boolean) Bd.returns (by simp) (hb hby dV6_137) (hnr ▸ hr)), hrun, hended, _, _, rfl, ?_, ⟨_, rfl⟩, hW, hsame.mono (by decide) (by decide)⟩
      show QV6 Z a1 a2 w0 w1 w2 w3 w4 w5 w6 w7 w8 r h0 n0 _ T9.heap _
      rw [e9]
      exact ⟨by rw [← hR]; simp [wF6, ha2, ha129], N6, rfl⟩
theorem dV7_0 : decode prog_13_method_8_code 0 = .ok (.aload_n 0, 1) := by decide +kernel
theorem dV7_1 : decode prog_13_method_8_code 1 = .ok (.aload_n 1, 1) := by decide +kernel
theorem dV7_2 : decode prog_13_method_8_code 2 = .ok (.if_acmp .ne 5, 3) := by decide +kernel
theorem dV7_5 : decode prog_13_method_8_code 5 = .ok (.iconst 1, 1) := by decide +kernel
theorem dV7_6 : decode prog_13_method_8_code 6 = .ok (.ireturn, 1) := by decide +kernel
theorem dV7_7 : decode prog_13_method_8_code 7 = .ok (.aload_n 0, 1) := by decide +kernel
theorem dV7_8 : decode prog_13_method_8_code 8 = .ok (.invokevirtual 90, 3) := by decide +kernel
theorem dV7_11 : decode prog_13_method_8_code 11 = .ok (.tableswitch 127 1 6 #[37, 60, 60, 68, 91, 114], 37) := by decide +kernel
theorem dV7_138 : decode prog_13_method_8_code 138 = .ok (.iconst 0, 1) := by decide +kernel
theorem dV7_139 : decode prog_13_method_8_code 139 = .ok (.ireturn, 1) := by decide +kernel
theorem pnV7 : plainName "com/example/whisker/whisker/PrimitiveType" = true := by first | (simp [plainName, overriddenIn]; done) | decide +kernel
theorem pdV7_0 : parseMethodDescriptor "()I" = some ⟨[], some .int⟩ := by decide +kernel
theorem efV7 (m : MethodId) (a1 : Addr) (a2 : Addr) : entryFrame m #[(.ref a1), (.ref a2)] 2 = mkF m 0 #[.val (.ref a1), .val (.ref a2)] [] := by first | (simp [entryFrame, mkF, argsToLocals, Value.category]; done) | rfl
def QV7 (Z : State) (a1 : Addr) (a2 : Addr) (w0 : Addr) (w1 : Addr) (w2 : Addr) (w3 : Addr) (w4 : Addr) (w5 : Addr) (w6 : Addr) (w7 : Addr) (w8 : Addr) (r : Int32) (h0 : Heap) (n0 : Nat) (v : Option Value) (h : Heap) (L : List Loc) : Prop := v = some (.int r) ∧ Fr n0 L ∧ h = h0
set_option maxRecDepth 65536 in
set_option maxHeartbeats 40000000 in
theorem rmV7 (l : Launch) (Z : State) (a0 : Array Value) (hw : ∀ d ∈ tables_1, d.before a0 Z = true) (ws : List Jvm.Cond) (a1 : Addr) (a2 : Addr) (w0 : Addr) (w1 : Addr) (w2 : Addr) (w3 : Addr) (w4 : Addr) (w5 : Addr) (w6 : Addr) (w7 : Addr) (w8 : Addr) (r : Int32) (h0 : Heap) (n0 : Nat) (Z0 : n0 ≤ h0.size) (S0 : Sta Z h0 "com/example/whisker/whisker/PrimitiveType" "BOOLEAN" "Lcom/example/whisker/whisker/PrimitiveType;" (.ref w0)) (S1 : Sta Z h0 "com/example/whisker/whisker/PrimitiveType" "BYTE" "Lcom/example/whisker/whisker/PrimitiveType;" (.ref w1)) (S2 : Sta Z h0 "com/example/whisker/whisker/PrimitiveType" "SHORT" "Lcom/example/whisker/whisker/PrimitiveType;" (.ref w2)) (S3 : Sta Z h0 "com/example/whisker/whisker/PrimitiveType" "CHAR" "Lcom/example/whisker/whisker/PrimitiveType;" (.ref w3)) (S4 : Sta Z h0 "com/example/whisker/whisker/PrimitiveType" "INT" "Lcom/example/whisker/whisker/PrimitiveType;" (.ref w4)) (S5 : Sta Z h0 "com/example/whisker/whisker/PrimitiveType" "LONG" "Lcom/example/whisker/whisker/PrimitiveType;" (.ref w5)) (S6 : Sta Z h0 "com/example/whisker/whisker/PrimitiveType" "FLOAT" "Lcom/example/whisker/whisker/PrimitiveType;" (.ref w6)) (S7 : Sta Z h0 "com/example/whisker/whisker/PrimitiveType" "DOUBLE" "Lcom/example/whisker/whisker/PrimitiveType;" (.ref w7)) (S8 : Sta Z h0 "com/example/whisker/whisker/PrimitiveType" "VOID" "Lcom/example/whisker/whisker/PrimitiveType;" (.ref w8)) (E1 : Exa Z h0 a1 "com/example/whisker/whisker/PrimitiveType") (F1 : Fld Z h0 a1 "java/lang/Enum" "ordinal" "I" (.int 7)) (E4 : Exa Z h0 w4 "com/example/whisker/whisker/PrimitiveType") (E5 : Exa Z h0 w5 "com/example/whisker/whisker/PrimitiveType") (E6 : Exa Z h0 w6 "com/example/whisker/whisker/PrimitiveType") (F4 : Fld Z h0 w4 "java/lang/Enum" "ordinal" "I" (.int 4)) (F5 : Fld Z h0 w5 "java/lang/Enum" "ordinal" "I" (.int 5)) (F6 : Fld Z h0 w6 "java/lang/Enum" "ordinal" "I" (.int 6)) (hR : wF7 a1 a2 w0 w1 w2 w3 w4 w5 w6 w7 w8 = r) :
    MetFree l (⟨"com/example/whisker/whisker/PrimitiveType", "widensTo", "(Lcom/example/whisker/whisker/PrimitiveType;)Z"⟩ : MethodName) (head1 (Jvm.Cond.code (⟨"com/example/whisker/whisker/PrimitiveType", "widensTo", "(Lcom/example/whisker/whisker/PrimitiveType;)Z"⟩ : MethodName) prog_13_method_8_code 2 (some .boolean) :: ws) ({ frames := 4, cells := 0, slots := 0, locals := 90 } : Room)) (fun a U => a = #[(.ref a1), (.ref a2)] ∧ Z.Warmed39 U.vm ∧ U.heap = h0) (fun _ _ _ _ _ => True) (fun _ U o U' => ∃ v L, o = .returned v ∧ QV7 Z a1 a2 w0 w1 w2 w3 w4 w5 w6 w7 w8 r h0 n0 v U'.heap L ∧ FrameEnd U o U' L ({ frames := 4, cells := 0, slots := 0, locals := 90 } : Room).cells ({ frames := 4, cells := 0, slots := 0, locals := 90 } : Room).slots) := by
  refine MetFree.of_bodySF (plainFor_of_name pnV7) hisR ?_
  intro p e s m args below meth c s₁ Bd hml0 hP hK
  obtain ⟨rfl, hZ, hh⟩ := hP
  have hx := Bd.exec
  have hby := Bd.bytes
  have hml : c.maxLocals = 2 := hml0
  have hown : s.vm.findClass "com/example/whisker/whisker/PrimitiveType" = some m.cls := findClass_of_methodNamed Bd.named
  have hnm := (name_of_methodNamed Bd.named Bd.method).1
  have X0 : Stand p l e ({ frames := 4, cells := 0, slots := 0, locals := 90 } : Room) s m #[(.ref a1), (.ref a2)] below meth c s₁ [] 0 0 := Stand.of_body Bd
  have e0 : s₁.heap = h0 := by rw [← hh, Bd.state]; rfl
  have N0 := Fr.nil n0
  have pre0 : Go p e below s₁ (mkF m 0 #[.val (.ref a1), .val (.ref a2)] []) s₁ (entryFrame m #[(.ref a1), (.ref a2)] 2) := fun t k => castTop (efV7 m a1 a2) k
  have pre1 : Go p e below s₁ (mkF m 2 #[.val (.ref a1), .val (.ref a2)] [(.ref a2), (.ref a1)]) s₁ (entryFrame m #[(.ref a1), (.ref a2)] 2) := fun t k => pre0 t (by
      show Steps p.tables e below (s₁.setTop (mkF m 0 #[.val (.ref a1), .val (.ref a2)] [])) t
      refine XS.aloadN X0.here hx rfl (hb hby dV7_0) rfl rfl ?_
      show Steps p.tables e below (s₁.setTop (mkF m 1 #[.val (.ref a1), .val (.ref a2)] [(.ref a1)])) t
      refine XS.aloadN X0.here hx rfl (hb hby dV7_1) rfl rfl ?_
      exact k)
  by_cases ha2 : a1 = a2
  · have pre2 : Go p e below s₁ (mkF m 5 #[.val (.ref a1), .val (.ref a2)] []) s₁ (entryFrame m #[(.ref a1), (.ref a2)] 2) := fun t k => pre1 t (Jvm.RoadKit.acmp (g := (mkF m 2 #[.val (.ref a1), .val (.ref a2)] [(.ref a2), (.ref a1)])) X0 hx rfl rfl rfl (pc0 := 2) (pc' := 5) (same := true) rfl (hb hby dV7_2) rfl (decide_eq_true (congrArg Value.ref ha2)) (by decide) (by decide) k)
    have pre3 : Go p e below s₁ (mkF m 6 #[.val (.ref a1), .val (.ref a2)] [(.int (1 : Int32))]) s₁ (entryFrame m #[(.ref a1), (.ref a2)] 2) := fun t k => pre2 t (by
        show Steps p.tables e below (s₁.setTop (mkF m 5 #[.val (.ref a1), .val (.ref a2)] [])) t
        refine XS.iconst X0.here hx rfl (hb hby dV7_5) ?_
        exact k)
    have hnr : Value.int (nar .boolean (1 : Int32)) = (.int (1 : Int32)) := by rfl
    obtain ⟨fs, hr, hrun, hended, hW, hsame⟩ := X0.leave (v := some (.int (1 : Int32))) (fun h => by rw [Bd.returns] at h; cases h)
    refine ⟨_, _, pre3 _ (retN X0 hx (t := .boolean) Bd.returns (by simp) (hb hby dV7_6) (hnr ▸ hr)), hrun, hended, _, _, rfl, ?_, ⟨_, rfl⟩, hW, hsame.mono (by decide) (by decide)⟩
    show QV7 Z a1 a2 w0 w1 w2 w3 w4 w5 w6 w7 w8 r h0 n0 _ s₁.heap _
    rw [e0]
    exact ⟨by rw [← hR]; simp [wF7, ha2], N0, rfl⟩
  · have pre4 : Go p e below s₁ (mkF m 7 #[.val (.ref a1), .val (.ref a2)] []) s₁ (entryFrame m #[(.ref a1), (.ref a2)] 2) := fun t k => pre1 t (Jvm.RoadKit.acmp (g := (mkF m 2 #[.val (.ref a1), .val (.ref a2)] [(.ref a2), (.ref a1)])) X0 hx rfl rfl rfl (pc0 := 2) (pc' := 7) (same := false) rfl (hb hby dV7_2) rfl (decide_eq_false fun q => ha2 (Value.ref.inj q)) (by decide) (by decide) k)
    have pre5 : Go p e below s₁ (mkF m 8 #[.val (.ref a1), .val (.ref a2)] [(.ref a1)]) s₁ (entryFrame m #[(.ref a1), (.ref a2)] 2) := fun t k => pre4 t (by
        show Steps p.tables e below (s₁.setTop (mkF m 7 #[.val (.ref a1), .val (.ref a2)] [])) t
        refine XS.aloadN X0.here hx rfl (hb hby dV7_7) rfl rfl ?_
        exact k)
    obtain ⟨cq6, kq6, q6a, q6b, q6c⟩ := isOf hZ e0 E1
    obtain ⟨_, _, ⟨T6, L6, k6, n6⟩, -, X6, ⟨Lc6, hQ6, l6, y6, z6⟩, st6⟩ := X0.virtualBackUp hx (x := (⟨"com/example/whisker/whisker/PrimitiveType", "ordinal", "()I"⟩ : MethodName)) (y := (⟨"java/lang/Enum", "ordinal", "()I"⟩ : MethodName)) (owner := "java/lang/Enum") hown (mvT hZ (hw _ (List.mem_of_getElem? (i := 18) rfl))) (mvT hZ (hw _ (List.mem_of_getElem? (i := 19) rfl))) (mvT hZ (hw _ (List.mem_of_getElem? (i := 20) rfl))) (by decide) (mvT hZ (hw _ (List.mem_of_getElem? (i := 22) rfl))) (mvT hZ (hw _ (List.mem_of_getElem? (i := 21) rfl))) (backOf (W := 0) (rmO l Z a0 hw [] a1 (7 : Int32) h0 n0 Z0 F1) hZ (hw _ (List.mem_of_getElem? (i := 24) rfl)) (hw _ (List.mem_of_getElem? (i := 23) rfl)) (by decide) (by decide)) q6a q6c (g := (mkF m 8 #[.val (.ref a1), .val (.ref a2)] [(.ref a1)])) rfl (by rw [hml]; rfl) (Steps.refl _) (argsL := []) (rest := []) (lenOf pdV7_0 rfl) rfl (by show 2 * 0 + _ ≤ _; exact Nat.le_of_eq rfl) (hb hby dV7_8) (fun _ _ => ⟨rfl, e0, (by decide : 0 + 0 ≤ _), (by decide : 0 + 0 ≤ _)⟩)
    dsimp only [Pt.U, Pt.locs, Pt.cells, Pt.slots] at X6 l6 y6 z6 st6 hQ6
    subst l6 y6 z6
    obtain ⟨rfl, N6q, hq6⟩ := hQ6
    have N6 := Fr.app N0 N6q
    have pre7 : Go p e below T6 (mkF m 11 #[.val (.ref a1), .val (.ref a2)] [(.int (7 : Int32))]) s₁ (entryFrame m #[(.ref a1), (.ref a2)] 2) := fun t k => pre5 t (st6.trans k)
    have e6 : T6.heap = h0 := hq6
    have pre8 : Go p e below T6 (mkF m 139 #[.val (.ref a1), .val (.ref a2)] [(.int (0 : Int32))]) s₁ (entryFrame m #[(.ref a1), (.ref a2)] 2) := fun t k => pre7 t (by
        show Steps p.tables e below (T6.setTop (mkF m 11 #[.val (.ref a1), .val (.ref a2)] [(.int (7 : Int32))])) t
        refine XS.tswOut X6.here hx rfl (pc0 := 11) (pc' := 138) rfl (hb hby dV7_11) rfl (by decide) (by decide) (by decide) ?_
        show Steps p.tables e below (T6.setTop (mkF m 138 #[.val (.ref a1), .val (.ref a2)] [])) t
        refine XS.iconst X6.here hx rfl (hb hby dV7_138) ?_
        exact k)
    have hnr : Value.int (nar .boolean (0 : Int32)) = (.int (0 : Int32)) := by rfl
    obtain ⟨fs, hr, hrun, hended, hW, hsame⟩ := X6.leave (v := some (.int (0 : Int32))) (fun h => by rw [Bd.returns] at h; cases h)
    refine ⟨_, _, pre8 _ (retN X6 hx (t := .boolean) Bd.returns (by simp) (hb hby dV7_139) (hnr ▸ hr)), hrun, hended, _, _, rfl, ?_, ⟨_, rfl⟩, hW, hsame.mono (by decide) (by decide)⟩
    show QV7 Z a1 a2 w0 w1 w2 w3 w4 w5 w6 w7 w8 r h0 n0 _ T6.heap _
    rw [e6]
    exact ⟨by rw [← hR]; simp [wF7, ha2], N6, rfl⟩
theorem dV8_0 : decode prog_13_method_8_code 0 = .ok (.aload_n 0, 1) := by decide +kernel
theorem dV8_1 : decode prog_13_method_8_code 1 = .ok (.aload_n 1, 1) := by decide +kernel
theorem dV8_2 : decode prog_13_method_8_code 2 = .ok (.if_acmp .ne 5, 3) := by decide +kernel
theorem dV8_5 : decode prog_13_method_8_code 5 = .ok (.iconst 1, 1) := by decide +kernel
theorem dV8_6 : decode prog_13_method_8_code 6 = .ok (.ireturn, 1) := by decide +kernel
theorem dV8_7 : decode prog_13_method_8_code 7 = .ok (.aload_n 0, 1) := by decide +kernel
theorem dV8_8 : decode prog_13_method_8_code 8 = .ok (.invokevirtual 90, 3) := by decide +kernel
theorem dV8_11 : decode prog_13_method_8_code 11 = .ok (.tableswitch 127 1 6 #[37, 60, 60, 68, 91, 114], 37) := by decide +kernel
theorem dV8_138 : decode prog_13_method_8_code 138 = .ok (.iconst 0, 1) := by decide +kernel
theorem dV8_139 : decode prog_13_method_8_code 139 = .ok (.ireturn, 1) := by decide +kernel
theorem pnV8 : plainName "com/example/whisker/whisker/PrimitiveType" = true := by first | (simp [plainName, overriddenIn]; done) | decide +kernel
theorem pdV8_0 : parseMethodDescriptor "()I" = some ⟨[], some .int⟩ := by decide +kernel
theorem efV8 (m : MethodId) (a1 : Addr) (a2 : Addr) : entryFrame m #[(.ref a1), (.ref a2)] 2 = mkF m 0 #[.val (.ref a1), .val (.ref a2)] [] := by first | (simp [entryFrame, mkF, argsToLocals, Value.category]; done) | rfl
def QV8 (Z : State) (a1 : Addr) (a2 : Addr) (w0 : Addr) (w1 : Addr) (w2 : Addr) (w3 : Addr) (w4 : Addr) (w5 : Addr) (w6 : Addr) (w7 : Addr) (w8 : Addr) (r : Int32) (h0 : Heap) (n0 : Nat) (v : Option Value) (h : Heap) (L : List Loc) : Prop := v = some (.int r) ∧ Fr n0 L ∧ h = h0
set_option maxRecDepth 65536 in
set_option maxHeartbeats 40000000 in
theorem rmV8 (l : Launch) (Z : State) (a0 : Array Value) (hw : ∀ d ∈ tables_1, d.before a0 Z = true) (ws : List Jvm.Cond) (a1 : Addr) (a2 : Addr) (w0 : Addr) (w1 : Addr) (w2 : Addr) (w3 : Addr) (w4 : Addr) (w5 : Addr) (w6 : Addr) (w7 : Addr) (w8 : Addr) (r : Int32) (h0 : Heap) (n0 : Nat) (Z0 : n0 ≤ h0.size) (S0 : Sta Z h0 "com/example/whisker/whisker/PrimitiveType" "BOOLEAN" "Lcom/example/whisker/whisker/PrimitiveType;" (.ref w0)) (S1 : Sta Z h0 "com/example/whisker/whisker/PrimitiveType" "BYTE" "Lcom/example/whisker/whisker/PrimitiveType;" (.ref w1)) (S2 : Sta Z h0 "com/example/whisker/whisker/PrimitiveType" "SHORT" "Lcom/example/whisker/whisker/PrimitiveType;" (.ref w2)) (S3 : Sta Z h0 "com/example/whisker/whisker/PrimitiveType" "CHAR" "Lcom/example/whisker/whisker/PrimitiveType;" (.ref w3)) (S4 : Sta Z h0 "com/example/whisker/whisker/PrimitiveType" "INT" "Lcom/example/whisker/whisker/PrimitiveType;" (.ref w4)) (S5 : Sta Z h0 "com/example/whisker/whisker/PrimitiveType" "LONG" "Lcom/example/whisker/whisker/PrimitiveType;" (.ref w5)) (S6 : Sta Z h0 "com/example/whisker/whisker/PrimitiveType" "FLOAT" "Lcom/example/whisker/whisker/PrimitiveType;" (.ref w6)) (S7 : Sta Z h0 "com/example/whisker/whisker/PrimitiveType" "DOUBLE" "Lcom/example/whisker/whisker/PrimitiveType;" (.ref w7)) (S8 : Sta Z h0 "com/example/whisker/whisker/PrimitiveType" "VOID" "Lcom/example/whisker/whisker/PrimitiveType;" (.ref w8)) (E1 : Exa Z h0 a1 "com/example/whisker/whisker/PrimitiveType") (F1 : Fld Z h0 a1 "java/lang/Enum" "ordinal" "I" (.int 8)) (E4 : Exa Z h0 w4 "com/example/whisker/whisker/PrimitiveType") (E5 : Exa Z h0 w5 "com/example/whisker/whisker/PrimitiveType") (E6 : Exa Z h0 w6 "com/example/whisker/whisker/PrimitiveType") (F4 : Fld Z h0 w4 "java/lang/Enum" "ordinal" "I" (.int 4)) (F5 : Fld Z h0 w5 "java/lang/Enum" "ordinal" "I" (.int 5)) (F6 : Fld Z h0 w6 "java/lang/Enum" "ordinal" "I" (.int 6)) (hR : wF8 a1 a2 w0 w1 w2 w3 w4 w5 w6 w7 w8 = r) :
    MetFree l (⟨"com/example/whisker/whisker/PrimitiveType", "widensTo", "(Lcom/example/whisker/whisker/PrimitiveType;)Z"⟩ : MethodName) (head1 (Jvm.Cond.code (⟨"com/example/whisker/whisker/PrimitiveType", "widensTo", "(Lcom/example/whisker/whisker/PrimitiveType;)Z"⟩ : MethodName) prog_13_method_8_code 2 (some .boolean) :: ws) ({ frames := 4, cells := 0, slots := 0, locals := 90 } : Room)) (fun a U => a = #[(.ref a1), (.ref a2)] ∧ Z.Warmed39 U.vm ∧ U.heap = h0) (fun _ _ _ _ _ => True) (fun _ U o U' => ∃ v L, o = .returned v ∧ QV8 Z a1 a2 w0 w1 w2 w3 w4 w5 w6 w7 w8 r h0 n0 v U'.heap L ∧ FrameEnd U o U' L ({ frames := 4, cells := 0, slots := 0, locals := 90 } : Room).cells ({ frames := 4, cells := 0, slots := 0, locals := 90 } : Room).slots) := by
  refine MetFree.of_bodySF (plainFor_of_name pnV8) hisR ?_
  intro p e s m args below meth c s₁ Bd hml0 hP hK
  obtain ⟨rfl, hZ, hh⟩ := hP
  have hx := Bd.exec
  have hby := Bd.bytes
  have hml : c.maxLocals = 2 := hml0
  have hown : s.vm.findClass "com/example/whisker/whisker/PrimitiveType" = some m.cls := findClass_of_methodNamed Bd.named
  have hnm := (name_of_methodNamed Bd.named Bd.method).1
  have X0 : Stand p l e ({ frames := 4, cells := 0, slots := 0, locals := 90 } : Room) s m #[(.ref a1), (.ref a2)] below meth c s₁ [] 0 0 := Stand.of_body Bd
  have e0 : s₁.heap = h0 := by rw [← hh, Bd.state]; rfl
  have N0 := Fr.nil n0
  have pre0 : Go p e below s₁ (mkF m 0 #[.val (.ref a1), .val (.ref a2)] []) s₁ (entryFrame m #[(.ref a1), (.ref a2)] 2) := fun t k => castTop (efV8 m a1 a2) k
  have pre1 : Go p e below s₁ (mkF m 2 #[.val (.ref a1), .val (.ref a2)] [(.ref a2), (.ref a1)]) s₁ (entryFrame m #[(.ref a1), (.ref a2)] 2) := fun t k => pre0 t (by
      show Steps p.tables e below (s₁.setTop (mkF m 0 #[.val (.ref a1), .val (.ref a2)] [])) t
      refine XS.aloadN X0.here hx rfl (hb hby dV8_0) rfl rfl ?_
      show Steps p.tables e below (s₁.setTop (mkF m 1 #[.val (.ref a1), .val (.ref a2)] [(.ref a1)])) t
      refine XS.aloadN X0.here hx rfl (hb hby dV8_1) rfl rfl ?_
      exact k)
  by_cases ha2 : a1 = a2
  · have pre2 : Go p e below s₁ (mkF m 5 #[.val (.ref a1), .val (.ref a2)] []) s₁ (entryFrame m #[(.ref a1), (.ref a2)] 2) := fun t k => pre1 t (Jvm.RoadKit.acmp (g := (mkF m 2 #[.val (.ref a1), .val (.ref a2)] [(.ref a2), (.ref a1)])) X0 hx rfl rfl rfl (pc0 := 2) (pc' := 5) (same := true) rfl (hb hby dV8_2) rfl (decide_eq_true (congrArg Value.ref ha2)) (by decide) (by decide) k)
    have pre3 : Go p e below s₁ (mkF m 6 #[.val (.ref a1), .val (.ref a2)] [(.int (1 : Int32))]) s₁ (entryFrame m #[(.ref a1), (.ref a2)] 2) := fun t k => pre2 t (by
        show Steps p.tables e below (s₁.setTop (mkF m 5 #[.val (.ref a1), .val (.ref a2)] [])) t
        refine XS.iconst X0.here hx rfl (hb hby dV8_5) ?_
        exact k)
    have hnr : Value.int (nar .boolean (1 : Int32)) = (.int (1 : Int32)) := by rfl
    obtain ⟨fs, hr, hrun, hended, hW, hsame⟩ := X0.leave (v := some (.int (1 : Int32))) (fun h => by rw [Bd.returns] at h; cases h)
    refine ⟨_, _, pre3 _ (retN X0 hx (t := .boolean) Bd.returns (by simp) (hb hby dV8_6) (hnr ▸ hr)), hrun, hended, _, _, rfl, ?_, ⟨_, rfl⟩, hW, hsame.mono (by decide) (by decide)⟩
    show QV8 Z a1 a2 w0 w1 w2 w3 w4 w5 w6 w7 w8 r h0 n0 _ s₁.heap _
    rw [e0]
    exact ⟨by rw [← hR]; simp [wF8, ha2], N0, rfl⟩
  · have pre4 : Go p e below s₁ (mkF m 7 #[.val (.ref a1), .val (.ref a2)] []) s₁ (entryFrame m #[(.ref a1), (.ref a2)] 2) := fun t k => pre1 t (Jvm.RoadKit.acmp (g := (mkF m 2 #[.val (.ref a1), .val (.ref a2)] [(.ref a2), (.ref a1)])) X0 hx rfl rfl rfl (pc0 := 2) (pc' := 7) (same := false) rfl (hb hby dV8_2) rfl (decide_eq_false fun q => ha2 (Value.ref.inj q)) (by decide) (by decide) k)
    have pre5 : Go p e below s₁ (mkF m 8 #[.val (.ref a1), .val (.ref a2)] [(.ref a1)]) s₁ (entryFrame m #[(.ref a1), (.ref a2)] 2) := fun t k => pre4 t (by
        show Steps p.tables e below (s₁.setTop (mkF m 7 #[.val (.ref a1), .val (.ref a2)] [])) t
        refine XS.aloadN X0.here hx rfl (hb hby dV8_7) rfl rfl ?_
        exact k)
    obtain ⟨cq6, kq6, q6a, q6b, q6c⟩ := isOf hZ e0 E1
    obtain ⟨_, _, ⟨T6, L6, k6, n6⟩, -, X6, ⟨Lc6, hQ6, l6, y6, z6⟩, st6⟩ := X0.virtualBackUp hx (x := (⟨"com/example/whisker/whisker/PrimitiveType", "ordinal", "()I"⟩ : MethodName)) (y := (⟨"java/lang/Enum", "ordinal", "()I"⟩ : MethodName)) (owner := "java/lang/Enum") hown (mvT hZ (hw _ (List.mem_of_getElem? (i := 18) rfl))) (mvT hZ (hw _ (List.mem_of_getElem? (i := 19) rfl))) (mvT hZ (hw _ (List.mem_of_getElem? (i := 20) rfl))) (by decide) (mvT hZ (hw _ (List.mem_of_getElem? (i := 22) rfl))) (mvT hZ (hw _ (List.mem_of_getElem? (i := 21) rfl))) (backOf (W := 0) (rmO l Z a0 hw [] a1 (8 : Int32) h0 n0 Z0 F1) hZ (hw _ (List.mem_of_getElem? (i := 24) rfl)) (hw _ (List.mem_of_getElem? (i := 23) rfl)) (by decide) (by decide)) q6a q6c (g := (mkF m 8 #[.val (.ref a1), .val (.ref a2)] [(.ref a1)])) rfl (by rw [hml]; rfl) (Steps.refl _) (argsL := []) (rest := []) (lenOf pdV8_0 rfl) rfl (by show 2 * 0 + _ ≤ _; exact Nat.le_of_eq rfl) (hb hby dV8_8) (fun _ _ => ⟨rfl, e0, (by decide : 0 + 0 ≤ _), (by decide : 0 + 0 ≤ _)⟩)
    dsimp only [Pt.U, Pt.locs, Pt.cells, Pt.slots] at X6 l6 y6 z6 st6 hQ6
    subst l6 y6 z6
    obtain ⟨rfl, N6q, hq6⟩ := hQ6
    have N6 := Fr.app N0 N6q
    have pre7 : Go p e below T6 (mkF m 11 #[.val (.ref a1), .val (.ref a2)] [(.int (8 : Int32))]) s₁ (entryFrame m #[(.ref a1), (.ref a2)] 2) := fun t k => pre5 t (st6.trans k)
    have e6 : T6.heap = h0 := hq6
    have pre8 : Go p e below T6 (mkF m 139 #[.val (.ref a1), .val (.ref a2)] [(.int (0 : Int32))]) s₁ (entryFrame m #[(.ref a1), (.ref a2)] 2) := fun t k => pre7 t (by
        show Steps p.tables e below (T6.setTop (mkF m 11 #[.val (.ref a1), .val (.ref a2)] [(.int (8 : Int32))])) t
        refine XS.tswOut X6.here hx rfl (pc0 := 11) (pc' := 138) rfl (hb hby dV8_11) rfl (by decide) (by decide) (by decide) ?_
        show Steps p.tables e below (T6.setTop (mkF m 138 #[.val (.ref a1), .val (.ref a2)] [])) t
        refine XS.iconst X6.here hx rfl (hb hby dV8_138) ?_
        exact k)
    have hnr : Value.int (nar .boolean (0 : Int32)) = (.int (0 : Int32)) := by rfl
    obtain ⟨fs, hr, hrun, hended, hW, hsame⟩ := X6.leave (v := some (.int (0 : Int32))) (fun h => by rw [Bd.returns] at h; cases h)
    refine ⟨_, _, pre8 _ (retN X6 hx (t := .boolean) Bd.returns (by simp) (hb hby dV8_139) (hnr ▸ hr)), hrun, hended, _, _, rfl, ?_, ⟨_, rfl⟩, hW, hsame.mono (by decide) (by decide)⟩
    show QV8 Z a1 a2 w0 w1 w2 w3 w4 w5 w6 w7 w8 r h0 n0 _ T6.heap _
    rw [e6]
    exact ⟨by rw [← hR]; simp [wF8, ha2], N6, rfl⟩
def expF (i j : Int32) : Int32 := if i = j then 1 else if rankF i < 0 then 0 else if rankF j < 0 then 0 else if j = 3 then 0 else if rankF i < rankF j then 1 else 0
set_option maxHeartbeats 4000000 in
theorem own_e0 (w0 w1 w2 w3 w4 w5 w6 w7 w8 : Addr) (d1_0 : w1 ≠ w0) (d2_0 : w2 ≠ w0) (d2_1 : w2 ≠ w1) (d3_0 : w3 ≠ w0) (d3_1 : w3 ≠ w1) (d3_2 : w3 ≠ w2) (d4_0 : w4 ≠ w0) (d4_1 : w4 ≠ w1) (d4_2 : w4 ≠ w2) (d4_3 : w4 ≠ w3) (d5_0 : w5 ≠ w0) (d5_1 : w5 ≠ w1) (d5_2 : w5 ≠ w2) (d5_3 : w5 ≠ w3) (d5_4 : w5 ≠ w4) (d6_0 : w6 ≠ w0) (d6_1 : w6 ≠ w1) (d6_2 : w6 ≠ w2) (d6_3 : w6 ≠ w3) (d6_4 : w6 ≠ w4) (d6_5 : w6 ≠ w5) (d7_0 : w7 ≠ w0) (d7_1 : w7 ≠ w1) (d7_2 : w7 ≠ w2) (d7_3 : w7 ≠ w3) (d7_4 : w7 ≠ w4) (d7_5 : w7 ≠ w5) (d7_6 : w7 ≠ w6) (d8_0 : w8 ≠ w0) (d8_1 : w8 ≠ w1) (d8_2 : w8 ≠ w2) (d8_3 : w8 ≠ w3) (d8_4 : w8 ≠ w4) (d8_5 : w8 ≠ w5) (d8_6 : w8 ≠ w6) (d8_7 : w8 ≠ w7) (j : Int32) (hj : j = 0 ∨ j = 1 ∨ j = 2 ∨ j = 3 ∨ j = 4 ∨ j = 5 ∨ j = 6 ∨ j = 7 ∨ j = 8) : wF0 w0 (pickF j w0 w1 w2 w3 w4 w5 w6 w7 w8) w0 w1 w2 w3 w4 w5 w6 w7 w8 = expF 0 j := by
  rcases hj with rfl | rfl | rfl | rfl | rfl | rfl | rfl | rfl | rfl
  all_goals simp [wF0, pickF, expF, rankF, d1_0, d2_0, d2_1, d3_0, d3_1, d3_2, d4_0, d4_1, d4_2, d4_3, d5_0, d5_1, d5_2, d5_3, d5_4, d6_0, d6_1, d6_2, d6_3, d6_4, d6_5, d7_0, d7_1, d7_2, d7_3, d7_4, d7_5, d7_6, d8_0, d8_1, d8_2, d8_3, d8_4, d8_5, d8_6, d8_7, Ne.symm d1_0, Ne.symm d2_0, Ne.symm d2_1, Ne.symm d3_0, Ne.symm d3_1, Ne.symm d3_2, Ne.symm d4_0, Ne.symm d4_1, Ne.symm d4_2, Ne.symm d4_3, Ne.symm d5_0, Ne.symm d5_1, Ne.symm d5_2, Ne.symm d5_3, Ne.symm d5_4, Ne.symm d6_0, Ne.symm d6_1, Ne.symm d6_2, Ne.symm d6_3, Ne.symm d6_4, Ne.symm d6_5, Ne.symm d7_0, Ne.symm d7_1, Ne.symm d7_2, Ne.symm d7_3, Ne.symm d7_4, Ne.symm d7_5, Ne.symm d7_6, Ne.symm d8_0, Ne.symm d8_1, Ne.symm d8_2, Ne.symm d8_3, Ne.symm d8_4, Ne.symm d8_5, Ne.symm d8_6, Ne.symm d8_7]
set_option maxHeartbeats 4000000 in
theorem own_e1 (w0 w1 w2 w3 w4 w5 w6 w7 w8 : Addr) (d1_0 : w1 ≠ w0) (d2_0 : w2 ≠ w0) (d2_1 : w2 ≠ w1) (d3_0 : w3 ≠ w0) (d3_1 : w3 ≠ w1) (d3_2 : w3 ≠ w2) (d4_0 : w4 ≠ w0) (d4_1 : w4 ≠ w1) (d4_2 : w4 ≠ w2) (d4_3 : w4 ≠ w3) (d5_0 : w5 ≠ w0) (d5_1 : w5 ≠ w1) (d5_2 : w5 ≠ w2) (d5_3 : w5 ≠ w3) (d5_4 : w5 ≠ w4) (d6_0 : w6 ≠ w0) (d6_1 : w6 ≠ w1) (d6_2 : w6 ≠ w2) (d6_3 : w6 ≠ w3) (d6_4 : w6 ≠ w4) (d6_5 : w6 ≠ w5) (d7_0 : w7 ≠ w0) (d7_1 : w7 ≠ w1) (d7_2 : w7 ≠ w2) (d7_3 : w7 ≠ w3) (d7_4 : w7 ≠ w4) (d7_5 : w7 ≠ w5) (d7_6 : w7 ≠ w6) (d8_0 : w8 ≠ w0) (d8_1 : w8 ≠ w1) (d8_2 : w8 ≠ w2) (d8_3 : w8 ≠ w3) (d8_4 : w8 ≠ w4) (d8_5 : w8 ≠ w5) (d8_6 : w8 ≠ w6) (d8_7 : w8 ≠ w7) (j : Int32) (hj : j = 0 ∨ j = 1 ∨ j = 2 ∨ j = 3 ∨ j = 4 ∨ j = 5 ∨ j = 6 ∨ j = 7 ∨ j = 8) : wF1 w1 (pickF j w0 w1 w2 w3 w4 w5 w6 w7 w8) w0 w1 w2 w3 w4 w5 w6 w7 w8 = expF 1 j := by
  rcases hj with rfl | rfl | rfl | rfl | rfl | rfl | rfl | rfl | rfl
  all_goals simp [wF1, wF4, wF5, wF6, pickF, expF, rankF, d1_0, d2_0, d2_1, d3_0, d3_1, d3_2, d4_0, d4_1, d4_2, d4_3, d5_0, d5_1, d5_2, d5_3, d5_4, d6_0, d6_1, d6_2, d6_3, d6_4, d6_5, d7_0, d7_1, d7_2, d7_3, d7_4, d7_5, d7_6, d8_0, d8_1, d8_2, d8_3, d8_4, d8_5, d8_6, d8_7, Ne.symm d1_0, Ne.symm d2_0, Ne.symm d2_1, Ne.symm d3_0, Ne.symm d3_1, Ne.symm d3_2, Ne.symm d4_0, Ne.symm d4_1, Ne.symm d4_2, Ne.symm d4_3, Ne.symm d5_0, Ne.symm d5_1, Ne.symm d5_2, Ne.symm d5_3, Ne.symm d5_4, Ne.symm d6_0, Ne.symm d6_1, Ne.symm d6_2, Ne.symm d6_3, Ne.symm d6_4, Ne.symm d6_5, Ne.symm d7_0, Ne.symm d7_1, Ne.symm d7_2, Ne.symm d7_3, Ne.symm d7_4, Ne.symm d7_5, Ne.symm d7_6, Ne.symm d8_0, Ne.symm d8_1, Ne.symm d8_2, Ne.symm d8_3, Ne.symm d8_4, Ne.symm d8_5, Ne.symm d8_6, Ne.symm d8_7]
set_option maxHeartbeats 4000000 in
theorem own_e2 (w0 w1 w2 w3 w4 w5 w6 w7 w8 : Addr) (d1_0 : w1 ≠ w0) (d2_0 : w2 ≠ w0) (d2_1 : w2 ≠ w1) (d3_0 : w3 ≠ w0) (d3_1 : w3 ≠ w1) (d3_2 : w3 ≠ w2) (d4_0 : w4 ≠ w0) (d4_1 : w4 ≠ w1) (d4_2 : w4 ≠ w2) (d4_3 : w4 ≠ w3) (d5_0 : w5 ≠ w0) (d5_1 : w5 ≠ w1) (d5_2 : w5 ≠ w2) (d5_3 : w5 ≠ w3) (d5_4 : w5 ≠ w4) (d6_0 : w6 ≠ w0) (d6_1 : w6 ≠ w1) (d6_2 : w6 ≠ w2) (d6_3 : w6 ≠ w3) (d6_4 : w6 ≠ w4) (d6_5 : w6 ≠ w5) (d7_0 : w7 ≠ w0) (d7_1 : w7 ≠ w1) (d7_2 : w7 ≠ w2) (d7_3 : w7 ≠ w3) (d7_4 : w7 ≠ w4) (d7_5 : w7 ≠ w5) (d7_6 : w7 ≠ w6) (d8_0 : w8 ≠ w0) (d8_1 : w8 ≠ w1) (d8_2 : w8 ≠ w2) (d8_3 : w8 ≠ w3) (d8_4 : w8 ≠ w4) (d8_5 : w8 ≠ w5) (d8_6 : w8 ≠ w6) (d8_7 : w8 ≠ w7) (j : Int32) (hj : j = 0 ∨ j = 1 ∨ j = 2 ∨ j = 3 ∨ j = 4 ∨ j = 5 ∨ j = 6 ∨ j = 7 ∨ j = 8) : wF2 w2 (pickF j w0 w1 w2 w3 w4 w5 w6 w7 w8) w0 w1 w2 w3 w4 w5 w6 w7 w8 = expF 2 j := by
  rcases hj with rfl | rfl | rfl | rfl | rfl | rfl | rfl | rfl | rfl
  all_goals simp [wF2, wF4, wF5, wF6, pickF, expF, rankF, d1_0, d2_0, d2_1, d3_0, d3_1, d3_2, d4_0, d4_1, d4_2, d4_3, d5_0, d5_1, d5_2, d5_3, d5_4, d6_0, d6_1, d6_2, d6_3, d6_4, d6_5, d7_0, d7_1, d7_2, d7_3, d7_4, d7_5, d7_6, d8_0, d8_1, d8_2, d8_3, d8_4, d8_5, d8_6, d8_7, Ne.symm d1_0, Ne.symm d2_0, Ne.symm d2_1, Ne.symm d3_0, Ne.symm d3_1, Ne.symm d3_2, Ne.symm d4_0, Ne.symm d4_1, Ne.symm d4_2, Ne.symm d4_3, Ne.symm d5_0, Ne.symm d5_1, Ne.symm d5_2, Ne.symm d5_3, Ne.symm d5_4, Ne.symm d6_0, Ne.symm d6_1, Ne.symm d6_2, Ne.symm d6_3, Ne.symm d6_4, Ne.symm d6_5, Ne.symm d7_0, Ne.symm d7_1, Ne.symm d7_2, Ne.symm d7_3, Ne.symm d7_4, Ne.symm d7_5, Ne.symm d7_6, Ne.symm d8_0, Ne.symm d8_1, Ne.symm d8_2, Ne.symm d8_3, Ne.symm d8_4, Ne.symm d8_5, Ne.symm d8_6, Ne.symm d8_7]
set_option maxHeartbeats 4000000 in
theorem own_e3 (w0 w1 w2 w3 w4 w5 w6 w7 w8 : Addr) (d1_0 : w1 ≠ w0) (d2_0 : w2 ≠ w0) (d2_1 : w2 ≠ w1) (d3_0 : w3 ≠ w0) (d3_1 : w3 ≠ w1) (d3_2 : w3 ≠ w2) (d4_0 : w4 ≠ w0) (d4_1 : w4 ≠ w1) (d4_2 : w4 ≠ w2) (d4_3 : w4 ≠ w3) (d5_0 : w5 ≠ w0) (d5_1 : w5 ≠ w1) (d5_2 : w5 ≠ w2) (d5_3 : w5 ≠ w3) (d5_4 : w5 ≠ w4) (d6_0 : w6 ≠ w0) (d6_1 : w6 ≠ w1) (d6_2 : w6 ≠ w2) (d6_3 : w6 ≠ w3) (d6_4 : w6 ≠ w4) (d6_5 : w6 ≠ w5) (d7_0 : w7 ≠ w0) (d7_1 : w7 ≠ w1) (d7_2 : w7 ≠ w2) (d7_3 : w7 ≠ w3) (d7_4 : w7 ≠ w4) (d7_5 : w7 ≠ w5) (d7_6 : w7 ≠ w6) (d8_0 : w8 ≠ w0) (d8_1 : w8 ≠ w1) (d8_2 : w8 ≠ w2) (d8_3 : w8 ≠ w3) (d8_4 : w8 ≠ w4) (d8_5 : w8 ≠ w5) (d8_6 : w8 ≠ w6) (d8_7 : w8 ≠ w7) (j : Int32) (hj : j = 0 ∨ j = 1 ∨ j = 2 ∨ j = 3 ∨ j = 4 ∨ j = 5 ∨ j = 6 ∨ j = 7 ∨ j = 8) : wF3 w3 (pickF j w0 w1 w2 w3 w4 w5 w6 w7 w8) w0 w1 w2 w3 w4 w5 w6 w7 w8 = expF 3 j := by
  rcases hj with rfl | rfl | rfl | rfl | rfl | rfl | rfl | rfl | rfl
  all_goals simp [wF3, wF4, wF5, wF6, pickF, expF, rankF, d1_0, d2_0, d2_1, d3_0, d3_1, d3_2, d4_0, d4_1, d4_2, d4_3, d5_0, d5_1, d5_2, d5_3, d5_4, d6_0, d6_1, d6_2, d6_3, d6_4, d6_5, d7_0, d7_1, d7_2, d7_3, d7_4, d7_5, d7_6, d8_0, d8_1, d8_2, d8_3, d8_4, d8_5, d8_6, d8_7, Ne.symm d1_0, Ne.symm d2_0, Ne.symm d2_1, Ne.symm d3_0, Ne.symm d3_1, Ne.symm d3_2, Ne.symm d4_0, Ne.symm d4_1, Ne.symm d4_2, Ne.symm d4_3, Ne.symm d5_0, Ne.symm d5_1, Ne.symm d5_2, Ne.symm d5_3, Ne.symm d5_4, Ne.symm d6_0, Ne.symm d6_1, Ne.symm d6_2, Ne.symm d6_3, Ne.symm d6_4, Ne.symm d6_5, Ne.symm d7_0, Ne.symm d7_1, Ne.symm d7_2, Ne.symm d7_3, Ne.symm d7_4, Ne.symm d7_5, Ne.symm d7_6, Ne.symm d8_0, Ne.symm d8_1, Ne.symm d8_2, Ne.symm d8_3, Ne.symm d8_4, Ne.symm d8_5, Ne.symm d8_6, Ne.symm d8_7]
set_option maxHeartbeats 4000000 in
theorem own_e4 (w0 w1 w2 w3 w4 w5 w6 w7 w8 : Addr) (d1_0 : w1 ≠ w0) (d2_0 : w2 ≠ w0) (d2_1 : w2 ≠ w1) (d3_0 : w3 ≠ w0) (d3_1 : w3 ≠ w1) (d3_2 : w3 ≠ w2) (d4_0 : w4 ≠ w0) (d4_1 : w4 ≠ w1) (d4_2 : w4 ≠ w2) (d4_3 : w4 ≠ w3) (d5_0 : w5 ≠ w0) (d5_1 : w5 ≠ w1) (d5_2 : w5 ≠ w2) (d5_3 : w5 ≠ w3) (d5_4 : w5 ≠ w4) (d6_0 : w6 ≠ w0) (d6_1 : w6 ≠ w1) (d6_2 : w6 ≠ w2) (d6_3 : w6 ≠ w3) (d6_4 : w6 ≠ w4) (d6_5 : w6 ≠ w5) (d7_0 : w7 ≠ w0) (d7_1 : w7 ≠ w1) (d7_2 : w7 ≠ w2) (d7_3 : w7 ≠ w3) (d7_4 : w7 ≠ w4) (d7_5 : w7 ≠ w5) (d7_6 : w7 ≠ w6) (d8_0 : w8 ≠ w0) (d8_1 : w8 ≠ w1) (d8_2 : w8 ≠ w2) (d8_3 : w8 ≠ w3) (d8_4 : w8 ≠ w4) (d8_5 : w8 ≠ w5) (d8_6 : w8 ≠ w6) (d8_7 : w8 ≠ w7) (j : Int32) (hj : j = 0 ∨ j = 1 ∨ j = 2 ∨ j = 3 ∨ j = 4 ∨ j = 5 ∨ j = 6 ∨ j = 7 ∨ j = 8) : wF4 w4 (pickF j w0 w1 w2 w3 w4 w5 w6 w7 w8) w0 w1 w2 w3 w4 w5 w6 w7 w8 = expF 4 j := by
  rcases hj with rfl | rfl | rfl | rfl | rfl | rfl | rfl | rfl | rfl
  all_goals simp [wF4, wF5, wF6, pickF, expF, rankF, d1_0, d2_0, d2_1, d3_0, d3_1, d3_2, d4_0, d4_1, d4_2, d4_3, d5_0, d5_1, d5_2, d5_3, d5_4, d6_0, d6_1, d6_2, d6_3, d6_4, d6_5, d7_0, d7_1, d7_2, d7_3, d7_4, d7_5, d7_6, d8_0, d8_1, d8_2, d8_3, d8_4, d8_5, d8_6, d8_7, Ne.symm d1_0, Ne.symm d2_0, Ne.symm d2_1, Ne.symm d3_0, Ne.symm d3_1, Ne.symm d3_2, Ne.symm d4_0, Ne.symm d4_1, Ne.symm d4_2, Ne.symm d4_3, Ne.symm d5_0, Ne.symm d5_1, Ne.symm d5_2, Ne.symm d5_3, Ne.symm d5_4, Ne.symm d6_0, Ne.symm d6_1, Ne.symm d6_2, Ne.symm d6_3, Ne.symm d6_4, Ne.symm d6_5, Ne.symm d7_0, Ne.symm d7_1, Ne.symm d7_2, Ne.symm d7_3, Ne.symm d7_4, Ne.symm d7_5, Ne.symm d7_6, Ne.symm d8_0, Ne.symm d8_1, Ne.symm d8_2, Ne.symm d8_3, Ne.symm d8_4, Ne.symm d8_5, Ne.symm d8_6, Ne.symm d8_7]
set_option maxHeartbeats 4000000 in
theorem own_e5 (w0 w1 w2 w3 w4 w5 w6 w7 w8 : Addr) (d1_0 : w1 ≠ w0) (d2_0 : w2 ≠ w0) (d2_1 : w2 ≠ w1) (d3_0 : w3 ≠ w0) (d3_1 : w3 ≠ w1) (d3_2 : w3 ≠ w2) (d4_0 : w4 ≠ w0) (d4_1 : w4 ≠ w1) (d4_2 : w4 ≠ w2) (d4_3 : w4 ≠ w3) (d5_0 : w5 ≠ w0) (d5_1 : w5 ≠ w1) (d5_2 : w5 ≠ w2) (d5_3 : w5 ≠ w3) (d5_4 : w5 ≠ w4) (d6_0 : w6 ≠ w0) (d6_1 : w6 ≠ w1) (d6_2 : w6 ≠ w2) (d6_3 : w6 ≠ w3) (d6_4 : w6 ≠ w4) (d6_5 : w6 ≠ w5) (d7_0 : w7 ≠ w0) (d7_1 : w7 ≠ w1) (d7_2 : w7 ≠ w2) (d7_3 : w7 ≠ w3) (d7_4 : w7 ≠ w4) (d7_5 : w7 ≠ w5) (d7_6 : w7 ≠ w6) (d8_0 : w8 ≠ w0) (d8_1 : w8 ≠ w1) (d8_2 : w8 ≠ w2) (d8_3 : w8 ≠ w3) (d8_4 : w8 ≠ w4) (d8_5 : w8 ≠ w5) (d8_6 : w8 ≠ w6) (d8_7 : w8 ≠ w7) (j : Int32) (hj : j = 0 ∨ j = 1 ∨ j = 2 ∨ j = 3 ∨ j = 4 ∨ j = 5 ∨ j = 6 ∨ j = 7 ∨ j = 8) : wF5 w5 (pickF j w0 w1 w2 w3 w4 w5 w6 w7 w8) w0 w1 w2 w3 w4 w5 w6 w7 w8 = expF 5 j := by
  rcases hj with rfl | rfl | rfl | rfl | rfl | rfl | rfl | rfl | rfl
  all_goals simp [wF5, wF6, pickF, expF, rankF, d1_0, d2_0, d2_1, d3_0, d3_1, d3_2, d4_0, d4_1, d4_2, d4_3, d5_0, d5_1, d5_2, d5_3, d5_4, d6_0, d6_1, d6_2, d6_3, d6_4, d6_5, d7_0, d7_1, d7_2, d7_3, d7_4, d7_5, d7_6, d8_0, d8_1, d8_2, d8_3, d8_4, d8_5, d8_6, d8_7, Ne.symm d1_0, Ne.symm d2_0, Ne.symm d2_1, Ne.symm d3_0, Ne.symm d3_1, Ne.symm d3_2, Ne.symm d4_0, Ne.symm d4_1, Ne.symm d4_2, Ne.symm d4_3, Ne.symm d5_0, Ne.symm d5_1, Ne.symm d5_2, Ne.symm d5_3, Ne.symm d5_4, Ne.symm d6_0, Ne.symm d6_1, Ne.symm d6_2, Ne.symm d6_3, Ne.symm d6_4, Ne.symm d6_5, Ne.symm d7_0, Ne.symm d7_1, Ne.symm d7_2, Ne.symm d7_3, Ne.symm d7_4, Ne.symm d7_5, Ne.symm d7_6, Ne.symm d8_0, Ne.symm d8_1, Ne.symm d8_2, Ne.symm d8_3, Ne.symm d8_4, Ne.symm d8_5, Ne.symm d8_6, Ne.symm d8_7]
set_option maxHeartbeats 4000000 in
theorem own_e6 (w0 w1 w2 w3 w4 w5 w6 w7 w8 : Addr) (d1_0 : w1 ≠ w0) (d2_0 : w2 ≠ w0) (d2_1 : w2 ≠ w1) (d3_0 : w3 ≠ w0) (d3_1 : w3 ≠ w1) (d3_2 : w3 ≠ w2) (d4_0 : w4 ≠ w0) (d4_1 : w4 ≠ w1) (d4_2 : w4 ≠ w2) (d4_3 : w4 ≠ w3) (d5_0 : w5 ≠ w0) (d5_1 : w5 ≠ w1) (d5_2 : w5 ≠ w2) (d5_3 : w5 ≠ w3) (d5_4 : w5 ≠ w4) (d6_0 : w6 ≠ w0) (d6_1 : w6 ≠ w1) (d6_2 : w6 ≠ w2) (d6_3 : w6 ≠ w3) (d6_4 : w6 ≠ w4) (d6_5 : w6 ≠ w5) (d7_0 : w7 ≠ w0) (d7_1 : w7 ≠ w1) (d7_2 : w7 ≠ w2) (d7_3 : w7 ≠ w3) (d7_4 : w7 ≠ w4) (d7_5 : w7 ≠ w5) (d7_6 : w7 ≠ w6) (d8_0 : w8 ≠ w0) (d8_1 : w8 ≠ w1) (d8_2 : w8 ≠ w2) (d8_3 : w8 ≠ w3) (d8_4 : w8 ≠ w4) (d8_5 : w8 ≠ w5) (d8_6 : w8 ≠ w6) (d8_7 : w8 ≠ w7) (j : Int32) (hj : j = 0 ∨ j = 1 ∨ j = 2 ∨ j = 3 ∨ j = 4 ∨ j = 5 ∨ j = 6 ∨ j = 7 ∨ j = 8) : wF6 w6 (pickF j w0 w1 w2 w3 w4 w5 w6 w7 w8) w0 w1 w2 w3 w4 w5 w6 w7 w8 = expF 6 j := by
  rcases hj with rfl | rfl | rfl | rfl | rfl | rfl | rfl | rfl | rfl
  all_goals simp [wF6, pickF, expF, rankF, d1_0, d2_0, d2_1, d3_0, d3_1, d3_2, d4_0, d4_1, d4_2, d4_3, d5_0, d5_1, d5_2, d5_3, d5_4, d6_0, d6_1, d6_2, d6_3, d6_4, d6_5, d7_0, d7_1, d7_2, d7_3, d7_4, d7_5, d7_6, d8_0, d8_1, d8_2, d8_3, d8_4, d8_5, d8_6, d8_7, Ne.symm d1_0, Ne.symm d2_0, Ne.symm d2_1, Ne.symm d3_0, Ne.symm d3_1, Ne.symm d3_2, Ne.symm d4_0, Ne.symm d4_1, Ne.symm d4_2, Ne.symm d4_3, Ne.symm d5_0, Ne.symm d5_1, Ne.symm d5_2, Ne.symm d5_3, Ne.symm d5_4, Ne.symm d6_0, Ne.symm d6_1, Ne.symm d6_2, Ne.symm d6_3, Ne.symm d6_4, Ne.symm d6_5, Ne.symm d7_0, Ne.symm d7_1, Ne.symm d7_2, Ne.symm d7_3, Ne.symm d7_4, Ne.symm d7_5, Ne.symm d7_6, Ne.symm d8_0, Ne.symm d8_1, Ne.symm d8_2, Ne.symm d8_3, Ne.symm d8_4, Ne.symm d8_5, Ne.symm d8_6, Ne.symm d8_7]
set_option maxHeartbeats 4000000 in
theorem own_e7 (w0 w1 w2 w3 w4 w5 w6 w7 w8 : Addr) (d1_0 : w1 ≠ w0) (d2_0 : w2 ≠ w0) (d2_1 : w2 ≠ w1) (d3_0 : w3 ≠ w0) (d3_1 : w3 ≠ w1) (d3_2 : w3 ≠ w2) (d4_0 : w4 ≠ w0) (d4_1 : w4 ≠ w1) (d4_2 : w4 ≠ w2) (d4_3 : w4 ≠ w3) (d5_0 : w5 ≠ w0) (d5_1 : w5 ≠ w1) (d5_2 : w5 ≠ w2) (d5_3 : w5 ≠ w3) (d5_4 : w5 ≠ w4) (d6_0 : w6 ≠ w0) (d6_1 : w6 ≠ w1) (d6_2 : w6 ≠ w2) (d6_3 : w6 ≠ w3) (d6_4 : w6 ≠ w4) (d6_5 : w6 ≠ w5) (d7_0 : w7 ≠ w0) (d7_1 : w7 ≠ w1) (d7_2 : w7 ≠ w2) (d7_3 : w7 ≠ w3) (d7_4 : w7 ≠ w4) (d7_5 : w7 ≠ w5) (d7_6 : w7 ≠ w6) (d8_0 : w8 ≠ w0) (d8_1 : w8 ≠ w1) (d8_2 : w8 ≠ w2) (d8_3 : w8 ≠ w3) (d8_4 : w8 ≠ w4) (d8_5 : w8 ≠ w5) (d8_6 : w8 ≠ w6) (d8_7 : w8 ≠ w7) (j : Int32) (hj : j = 0 ∨ j = 1 ∨ j = 2 ∨ j = 3 ∨ j = 4 ∨ j = 5 ∨ j = 6 ∨ j = 7 ∨ j = 8) : wF7 w7 (pickF j w0 w1 w2 w3 w4 w5 w6 w7 w8) w0 w1 w2 w3 w4 w5 w6 w7 w8 = expF 7 j := by
  rcases hj with rfl | rfl | rfl | rfl | rfl | rfl | rfl | rfl | rfl
  all_goals simp [wF7, pickF, expF, rankF, d1_0, d2_0, d2_1, d3_0, d3_1, d3_2, d4_0, d4_1, d4_2, d4_3, d5_0, d5_1, d5_2, d5_3, d5_4, d6_0, d6_1, d6_2, d6_3, d6_4, d6_5, d7_0, d7_1, d7_2, d7_3, d7_4, d7_5, d7_6, d8_0, d8_1, d8_2, d8_3, d8_4, d8_5, d8_6, d8_7, Ne.symm d1_0, Ne.symm d2_0, Ne.symm d2_1, Ne.symm d3_0, Ne.symm d3_1, Ne.symm d3_2, Ne.symm d4_0, Ne.symm d4_1, Ne.symm d4_2, Ne.symm d4_3, Ne.symm d5_0, Ne.symm d5_1, Ne.symm d5_2, Ne.symm d5_3, Ne.symm d5_4, Ne.symm d6_0, Ne.symm d6_1, Ne.symm d6_2, Ne.symm d6_3, Ne.symm d6_4, Ne.symm d6_5, Ne.symm d7_0, Ne.symm d7_1, Ne.symm d7_2, Ne.symm d7_3, Ne.symm d7_4, Ne.symm d7_5, Ne.symm d7_6, Ne.symm d8_0, Ne.symm d8_1, Ne.symm d8_2, Ne.symm d8_3, Ne.symm d8_4, Ne.symm d8_5, Ne.symm d8_6, Ne.symm d8_7]
set_option maxHeartbeats 4000000 in
theorem own_e8 (w0 w1 w2 w3 w4 w5 w6 w7 w8 : Addr) (d1_0 : w1 ≠ w0) (d2_0 : w2 ≠ w0) (d2_1 : w2 ≠ w1) (d3_0 : w3 ≠ w0) (d3_1 : w3 ≠ w1) (d3_2 : w3 ≠ w2) (d4_0 : w4 ≠ w0) (d4_1 : w4 ≠ w1) (d4_2 : w4 ≠ w2) (d4_3 : w4 ≠ w3) (d5_0 : w5 ≠ w0) (d5_1 : w5 ≠ w1) (d5_2 : w5 ≠ w2) (d5_3 : w5 ≠ w3) (d5_4 : w5 ≠ w4) (d6_0 : w6 ≠ w0) (d6_1 : w6 ≠ w1) (d6_2 : w6 ≠ w2) (d6_3 : w6 ≠ w3) (d6_4 : w6 ≠ w4) (d6_5 : w6 ≠ w5) (d7_0 : w7 ≠ w0) (d7_1 : w7 ≠ w1) (d7_2 : w7 ≠ w2) (d7_3 : w7 ≠ w3) (d7_4 : w7 ≠ w4) (d7_5 : w7 ≠ w5) (d7_6 : w7 ≠ w6) (d8_0 : w8 ≠ w0) (d8_1 : w8 ≠ w1) (d8_2 : w8 ≠ w2) (d8_3 : w8 ≠ w3) (d8_4 : w8 ≠ w4) (d8_5 : w8 ≠ w5) (d8_6 : w8 ≠ w6) (d8_7 : w8 ≠ w7) (j : Int32) (hj : j = 0 ∨ j = 1 ∨ j = 2 ∨ j = 3 ∨ j = 4 ∨ j = 5 ∨ j = 6 ∨ j = 7 ∨ j = 8) : wF8 w8 (pickF j w0 w1 w2 w3 w4 w5 w6 w7 w8) w0 w1 w2 w3 w4 w5 w6 w7 w8 = expF 8 j := by
  rcases hj with rfl | rfl | rfl | rfl | rfl | rfl | rfl | rfl | rfl
  all_goals simp [wF8, pickF, expF, rankF, d1_0, d2_0, d2_1, d3_0, d3_1, d3_2, d4_0, d4_1, d4_2, d4_3, d5_0, d5_1, d5_2, d5_3, d5_4, d6_0, d6_1, d6_2, d6_3, d6_4, d6_5, d7_0, d7_1, d7_2, d7_3, d7_4, d7_5, d7_6, d8_0, d8_1, d8_2, d8_3, d8_4, d8_5, d8_6, d8_7, Ne.symm d1_0, Ne.symm d2_0, Ne.symm d2_1, Ne.symm d3_0, Ne.symm d3_1, Ne.symm d3_2, Ne.symm d4_0, Ne.symm d4_1, Ne.symm d4_2, Ne.symm d4_3, Ne.symm d5_0, Ne.symm d5_1, Ne.symm d5_2, Ne.symm d5_3, Ne.symm d5_4, Ne.symm d6_0, Ne.symm d6_1, Ne.symm d6_2, Ne.symm d6_3, Ne.symm d6_4, Ne.symm d6_5, Ne.symm d7_0, Ne.symm d7_1, Ne.symm d7_2, Ne.symm d7_3, Ne.symm d7_4, Ne.symm d7_5, Ne.symm d7_6, Ne.symm d8_0, Ne.symm d8_1, Ne.symm d8_2, Ne.symm d8_3, Ne.symm d8_4, Ne.symm d8_5, Ne.symm d8_6, Ne.symm d8_7]
def QX (r : Int32) (h0 : Heap) (n0 : Nat) (v : Option Value) (h : Heap) (L : List Loc) : Prop := v = some (.int r) ∧ Fr n0 L ∧ h = h0
theorem rmX (l : Launch) (Z : State) (a0 : Array Value) (hw : ∀ d ∈ tables_1, d.before a0 Z = true) (ws : List Jvm.Cond) (a1 a2 : Addr) (i j : Int32) (w0 : Addr) (w1 : Addr) (w2 : Addr) (w3 : Addr) (w4 : Addr) (w5 : Addr) (w6 : Addr) (w7 : Addr) (w8 : Addr) (r : Int32) (h0 : Heap) (n0 : Nat) (Z0 : n0 ≤ h0.size) (S0 : Sta Z h0 "com/example/whisker/whisker/PrimitiveType" "BOOLEAN" "Lcom/example/whisker/whisker/PrimitiveType;" (.ref w0)) (S1 : Sta Z h0 "com/example/whisker/whisker/PrimitiveType" "BYTE" "Lcom/example/whisker/whisker/PrimitiveType;" (.ref w1)) (S2 : Sta Z h0 "com/example/whisker/whisker/PrimitiveType" "SHORT" "Lcom/example/whisker/whisker/PrimitiveType;" (.ref w2)) (S3 : Sta Z h0 "com/example/whisker/whisker/PrimitiveType" "CHAR" "Lcom/example/whisker/whisker/PrimitiveType;" (.ref w3)) (S4 : Sta Z h0 "com/example/whisker/whisker/PrimitiveType" "INT" "Lcom/example/whisker/whisker/PrimitiveType;" (.ref w4)) (S5 : Sta Z h0 "com/example/whisker/whisker/PrimitiveType" "LONG" "Lcom/example/whisker/whisker/PrimitiveType;" (.ref w5)) (S6 : Sta Z h0 "com/example/whisker/whisker/PrimitiveType" "FLOAT" "Lcom/example/whisker/whisker/PrimitiveType;" (.ref w6)) (S7 : Sta Z h0 "com/example/whisker/whisker/PrimitiveType" "DOUBLE" "Lcom/example/whisker/whisker/PrimitiveType;" (.ref w7)) (S8 : Sta Z h0 "com/example/whisker/whisker/PrimitiveType" "VOID" "Lcom/example/whisker/whisker/PrimitiveType;" (.ref w8)) (E0 : Exa Z h0 w0 "com/example/whisker/whisker/PrimitiveType") (E1 : Exa Z h0 w1 "com/example/whisker/whisker/PrimitiveType") (E2 : Exa Z h0 w2 "com/example/whisker/whisker/PrimitiveType") (E3 : Exa Z h0 w3 "com/example/whisker/whisker/PrimitiveType") (E4 : Exa Z h0 w4 "com/example/whisker/whisker/PrimitiveType") (E5 : Exa Z h0 w5 "com/example/whisker/whisker/PrimitiveType") (E6 : Exa Z h0 w6 "com/example/whisker/whisker/PrimitiveType") (E7 : Exa Z h0 w7 "com/example/whisker/whisker/PrimitiveType") (E8 : Exa Z h0 w8 "com/example/whisker/whisker/PrimitiveType") (F0 : Fld Z h0 w0 "java/lang/Enum" "ordinal" "I" (.int 0)) (F1 : Fld Z h0 w1 "java/lang/Enum" "ordinal" "I" (.int 1)) (F2 : Fld Z h0 w2 "java/lang/Enum" "ordinal" "I" (.int 2)) (F3 : Fld Z h0 w3 "java/lang/Enum" "ordinal" "I" (.int 3)) (F4 : Fld Z h0 w4 "java/lang/Enum" "ordinal" "I" (.int 4)) (F5 : Fld Z h0 w5 "java/lang/Enum" "ordinal" "I" (.int 5)) (F6 : Fld Z h0 w6 "java/lang/Enum" "ordinal" "I" (.int 6)) (F7 : Fld Z h0 w7 "java/lang/Enum" "ordinal" "I" (.int 7)) (F8 : Fld Z h0 w8 "java/lang/Enum" "ordinal" "I" (.int 8)) (d1_0 : w1 ≠ w0) (d2_0 : w2 ≠ w0) (d2_1 : w2 ≠ w1) (d3_0 : w3 ≠ w0) (d3_1 : w3 ≠ w1) (d3_2 : w3 ≠ w2) (d4_0 : w4 ≠ w0) (d4_1 : w4 ≠ w1) (d4_2 : w4 ≠ w2) (d4_3 : w4 ≠ w3) (d5_0 : w5 ≠ w0) (d5_1 : w5 ≠ w1) (d5_2 : w5 ≠ w2) (d5_3 : w5 ≠ w3) (d5_4 : w5 ≠ w4) (d6_0 : w6 ≠ w0) (d6_1 : w6 ≠ w1) (d6_2 : w6 ≠ w2) (d6_3 : w6 ≠ w3) (d6_4 : w6 ≠ w4) (d6_5 : w6 ≠ w5) (d7_0 : w7 ≠ w0) (d7_1 : w7 ≠ w1) (d7_2 : w7 ≠ w2) (d7_3 : w7 ≠ w3) (d7_4 : w7 ≠ w4) (d7_5 : w7 ≠ w5) (d7_6 : w7 ≠ w6) (d8_0 : w8 ≠ w0) (d8_1 : w8 ≠ w1) (d8_2 : w8 ≠ w2) (d8_3 : w8 ≠ w3) (d8_4 : w8 ≠ w4) (d8_5 : w8 ≠ w5) (d8_6 : w8 ≠ w6) (d8_7 : w8 ≠ w7) (hi : i = 0 ∨ i = 1 ∨ i = 2 ∨ i = 3 ∨ i = 4 ∨ i = 5 ∨ i = 6 ∨ i = 7 ∨ i = 8) (hj : j = 0 ∨ j = 1 ∨ j = 2 ∨ j = 3 ∨ j = 4 ∨ j = 5 ∨ j = 6 ∨ j = 7 ∨ j = 8) (e1 : a1 = pickF i w0 w1 w2 w3 w4 w5 w6 w7 w8) (e2 : a2 = pickF j w0 w1 w2 w3 w4 w5 w6 w7 w8) (hR : expF i j = r) :
    MetFree l (⟨"com/example/whisker/whisker/PrimitiveType", "widensTo", "(Lcom/example/whisker/whisker/PrimitiveType;)Z"⟩ : MethodName) (head1 (Jvm.Cond.code (⟨"com/example/whisker/whisker/PrimitiveType", "widensTo", "(Lcom/example/whisker/whisker/PrimitiveType;)Z"⟩ : MethodName) prog_13_method_8_code 2 (some .boolean) :: ws) ({ frames := 4, cells := 0, slots := 0, locals := 90 } : Room)) (fun a U => a = #[(.ref a1), (.ref a2)] ∧ Z.Warmed39 U.vm ∧ U.heap = h0) (fun _ _ _ _ _ => True) (fun _ U o U' => ∃ v L, o = .returned v ∧ QX r h0 n0 v U'.heap L ∧ FrameEnd U o U' L ({ frames := 4, cells := 0, slots := 0, locals := 90 } : Room).cells ({ frames := 4, cells := 0, slots := 0, locals := 90 } : Room).slots) := by
  subst hR
  rcases hi with rfl | rfl | rfl | rfl | rfl | rfl | rfl | rfl | rfl
  · have q : pickF 0 w0 w1 w2 w3 w4 w5 w6 w7 w8 = w0 := by simp [pickF]
    rw [e1, e2, q]
    exact rmV0 l Z a0 hw ws w0 _ w0 w1 w2 w3 w4 w5 w6 w7 w8 _ h0 n0 Z0 S0 S1 S2 S3 S4 S5 S6 S7 S8 E0 F0 E4 E5 E6 F4 F5 F6 (own_e0 w0 w1 w2 w3 w4 w5 w6 w7 w8 d1_0 d2_0 d2_1 d3_0 d3_1 d3_2 d4_0 d4_1 d4_2 d4_3 d5_0 d5_1 d5_2 d5_3 d5_4 d6_0 d6_1 d6_2 d6_3 d6_4 d6_5 d7_0 d7_1 d7_2 d7_3 d7_4 d7_5 d7_6 d8_0 d8_1 d8_2 d8_3 d8_4 d8_5 d8_6 d8_7 j hj)
  · have q : pickF 1 w0 w1 w2 w3 w4 w5 w6 w7 w8 = w1 := by simp [pickF]
    rw [e1, e2, q]
    exact rmV1 l Z a0 hw ws w1 _ w0 w1 w2 w3 w4 w5 w6 w7 w8 _ h0 n0 Z0 S0 S1 S2 S3 S4 S5 S6 S7 S8 E1 F1 E4 E5 E6 F4 F5 F6 (own_e1 w0 w1 w2 w3 w4 w5 w6 w7 w8 d1_0 d2_0 d2_1 d3_0 d3_1 d3_2 d4_0 d4_1 d4_2 d4_3 d5_0 d5_1 d5_2 d5_3 d5_4 d6_0 d6_1 d6_2 d6_3 d6_4 d6_5 d7_0 d7_1 d7_2 d7_3 d7_4 d7_5 d7_6 d8_0 d8_1 d8_2 d8_3 d8_4 d8_5 d8_6 d8_7 j hj)
  · have q : pickF 2 w0 w1 w2 w3 w4 w5 w6 w7 w8 = w2 := by simp [pickF]
    rw [e1, e2, q]
    exact rmV2 l Z a0 hw ws w2 _ w0 w1 w2 w3 w4 w5 w6 w7 w8 _ h0 n0 Z0 S0 S1 S2 S3 S4 S5 S6 S7 S8 E2 F2 E4 E5 E6 F4 F5 F6 (own_e2 w0 w1 w2 w3 w4 w5 w6 w7 w8 d1_0 d2_0 d2_1 d3_0 d3_1 d3_2 d4_0 d4_1 d4_2 d4_3 d5_0 d5_1 d5_2 d5_3 d5_4 d6_0 d6_1 d6_2 d6_3 d6_4 d6_5 d7_0 d7_1 d7_2 d7_3 d7_4 d7_5 d7_6 d8_0 d8_1 d8_2 d8_3 d8_4 d8_5 d8_6 d8_7 j hj)
  · have q : pickF 3 w0 w1 w2 w3 w4 w5 w6 w7 w8 = w3 := by simp [pickF]
    rw [e1, e2, q]
    exact rmV3 l Z a0 hw ws w3 _ w0 w1 w2 w3 w4 w5 w6 w7 w8 _ h0 n0 Z0 S0 S1 S2 S3 S4 S5 S6 S7 S8 E3 F3 E4 E5 E6 F4 F5 F6 (own_e3 w0 w1 w2 w3 w4 w5 w6 w7 w8 d1_0 d2_0 d2_1 d3_0 d3_1 d3_2 d4_0 d4_1 d4_2 d4_3 d5_0 d5_1 d5_2 d5_3 d5_4 d6_0 d6_1 d6_2 d6_3 d6_4 d6_5 d7_0 d7_1 d7_2 d7_3 d7_4 d7_5 d7_6 d8_0 d8_1 d8_2 d8_3 d8_4 d8_5 d8_6 d8_7 j hj)
  · have q : pickF 4 w0 w1 w2 w3 w4 w5 w6 w7 w8 = w4 := by simp [pickF]
    rw [e1, e2, q]
    exact rmV4 l Z a0 hw ws w4 _ w0 w1 w2 w3 w4 w5 w6 w7 w8 _ h0 n0 Z0 S0 S1 S2 S3 S4 S5 S6 S7 S8 E4 F4 E4 E5 E6 F4 F5 F6 (own_e4 w0 w1 w2 w3 w4 w5 w6 w7 w8 d1_0 d2_0 d2_1 d3_0 d3_1 d3_2 d4_0 d4_1 d4_2 d4_3 d5_0 d5_1 d5_2 d5_3 d5_4 d6_0 d6_1 d6_2 d6_3 d6_4 d6_5 d7_0 d7_1 d7_2 d7_3 d7_4 d7_5 d7_6 d8_0 d8_1 d8_2 d8_3 d8_4 d8_5 d8_6 d8_7 j hj)
  · have q : pickF 5 w0 w1 w2 w3 w4 w5 w6 w7 w8 = w5 := by simp [pickF]
    rw [e1, e2, q]
    exact rmV5 l Z a0 hw ws w5 _ w0 w1 w2 w3 w4 w5 w6 w7 w8 _ h0 n0 Z0 S0 S1 S2 S3 S4 S5 S6 S7 S8 E5 F5 E4 E5 E6 F4 F5 F6 (own_e5 w0 w1 w2 w3 w4 w5 w6 w7 w8 d1_0 d2_0 d2_1 d3_0 d3_1 d3_2 d4_0 d4_1 d4_2 d4_3 d5_0 d5_1 d5_2 d5_3 d5_4 d6_0 d6_1 d6_2 d6_3 d6_4 d6_5 d7_0 d7_1 d7_2 d7_3 d7_4 d7_5 d7_6 d8_0 d8_1 d8_2 d8_3 d8_4 d8_5 d8_6 d8_7 j hj)
  · have q : pickF 6 w0 w1 w2 w3 w4 w5 w6 w7 w8 = w6 := by simp [pickF]
    rw [e1, e2, q]
    exact rmV6 l Z a0 hw ws w6 _ w0 w1 w2 w3 w4 w5 w6 w7 w8 _ h0 n0 Z0 S0 S1 S2 S3 S4 S5 S6 S7 S8 E6 F6 E4 E5 E6 F4 F5 F6 (own_e6 w0 w1 w2 w3 w4 w5 w6 w7 w8 d1_0 d2_0 d2_1 d3_0 d3_1 d3_2 d4_0 d4_1 d4_2 d4_3 d5_0 d5_1 d5_2 d5_3 d5_4 d6_0 d6_1 d6_2 d6_3 d6_4 d6_5 d7_0 d7_1 d7_2 d7_3 d7_4 d7_5 d7_6 d8_0 d8_1 d8_2 d8_3 d8_4 d8_5 d8_6 d8_7 j hj)
  · have q : pickF 7 w0 w1 w2 w3 w4 w5 w6 w7 w8 = w7 := by simp [pickF]
    rw [e1, e2, q]
    exact rmV7 l Z a0 hw ws w7 _ w0 w1 w2 w3 w4 w5 w6 w7 w8 _ h0 n0 Z0 S0 S1 S2 S3 S4 S5 S6 S7 S8 E7 F7 E4 E5 E6 F4 F5 F6 (own_e7 w0 w1 w2 w3 w4 w5 w6 w7 w8 d1_0 d2_0 d2_1 d3_0 d3_1 d3_2 d4_0 d4_1 d4_2 d4_3 d5_0 d5_1 d5_2 d5_3 d5_4 d6_0 d6_1 d6_2 d6_3 d6_4 d6_5 d7_0 d7_1 d7_2 d7_3 d7_4 d7_5 d7_6 d8_0 d8_1 d8_2 d8_3 d8_4 d8_5 d8_6 d8_7 j hj)
  · have q : pickF 8 w0 w1 w2 w3 w4 w5 w6 w7 w8 = w8 := by simp [pickF]
    rw [e1, e2, q]
    exact rmV8 l Z a0 hw ws w8 _ w0 w1 w2 w3 w4 w5 w6 w7 w8 _ h0 n0 Z0 S0 S1 S2 S3 S4 S5 S6 S7 S8 E8 F8 E4 E5 E6 F4 F5 F6 (own_e8 w0 w1 w2 w3 w4 w5 w6 w7 w8 d1_0 d2_0 d2_1 d3_0 d3_1 d3_2 d4_0 d4_1 d4_2 d4_3 d5_0 d5_1 d5_2 d5_3 d5_4 d6_0 d6_1 d6_2 d6_3 d6_4 d6_5 d7_0 d7_1 d7_2 d7_3 d7_4 d7_5 d7_6 d8_0 d8_1 d8_2 d8_3 d8_4 d8_5 d8_6 d8_7 j hj)
theorem pnL : plainName "com/example/whisker/whisker/PrimitiveTypeWidensToPinLaw" = true := by first | (simp [plainName, overriddenIn]; done) | decide +kernel
theorem pdL_0 : parseMethodDescriptor "(I)Lcom/example/whisker/whisker/PrimitiveType;" = some ⟨[.int], some (.object "com/example/whisker/whisker/PrimitiveType")⟩ := by decide +kernel
theorem pdL_1 : parseMethodDescriptor "(I)I" = some ⟨[.int], some .int⟩ := by decide +kernel
theorem pdL_2 : parseMethodDescriptor "(Lcom/example/whisker/whisker/PrimitiveType;)Z" = some ⟨[(.object "com/example/whisker/whisker/PrimitiveType")], some .boolean⟩ := by decide +kernel
theorem efL (m : MethodId) (p1 : Int32) (p2 : Int32) : entryFrame m #[(.int p1), (.int p2)] maxLocals = mkF m 0 #[.val (.int p1), .val (.int p2), .unset, .unset, .unset, .unset, .unset, .unset, .unset] [] := by first | (simp [entryFrame, mkF, argsToLocals, Value.category, maxLocals]; done) | rfl
def QL (Z : State) (p1 : Int32) (p2 : Int32) (w0 : Addr) (w1 : Addr) (w2 : Addr) (w3 : Addr) (w4 : Addr) (w5 : Addr) (w6 : Addr) (w7 : Addr) (w8 : Addr) (h0 : Heap) (n0 : Nat) (v : Option Value) (h : Heap) (L : List Loc) : Prop := v = some (.int 1) ∧ Fr n0 L
set_option maxRecDepth 65536 in
set_option maxHeartbeats 40000000 in
theorem rmL (l : Launch) (Z : State) (a0 : Array Value) (hw : ∀ d ∈ tables_1, d.before a0 Z = true) (ws : List Jvm.Cond) (p1 : Int32) (p2 : Int32) (w0 : Addr) (w1 : Addr) (w2 : Addr) (w3 : Addr) (w4 : Addr) (w5 : Addr) (w6 : Addr) (w7 : Addr) (w8 : Addr) (h0 : Heap) (n0 : Nat) (Z0 : n0 ≤ h0.size) (S0 : Sta Z h0 "com/example/whisker/whisker/PrimitiveType" "BOOLEAN" "Lcom/example/whisker/whisker/PrimitiveType;" (.ref w0)) (S1 : Sta Z h0 "com/example/whisker/whisker/PrimitiveType" "BYTE" "Lcom/example/whisker/whisker/PrimitiveType;" (.ref w1)) (S2 : Sta Z h0 "com/example/whisker/whisker/PrimitiveType" "SHORT" "Lcom/example/whisker/whisker/PrimitiveType;" (.ref w2)) (S3 : Sta Z h0 "com/example/whisker/whisker/PrimitiveType" "CHAR" "Lcom/example/whisker/whisker/PrimitiveType;" (.ref w3)) (S4 : Sta Z h0 "com/example/whisker/whisker/PrimitiveType" "INT" "Lcom/example/whisker/whisker/PrimitiveType;" (.ref w4)) (S5 : Sta Z h0 "com/example/whisker/whisker/PrimitiveType" "LONG" "Lcom/example/whisker/whisker/PrimitiveType;" (.ref w5)) (S6 : Sta Z h0 "com/example/whisker/whisker/PrimitiveType" "FLOAT" "Lcom/example/whisker/whisker/PrimitiveType;" (.ref w6)) (S7 : Sta Z h0 "com/example/whisker/whisker/PrimitiveType" "DOUBLE" "Lcom/example/whisker/whisker/PrimitiveType;" (.ref w7)) (S8 : Sta Z h0 "com/example/whisker/whisker/PrimitiveType" "VOID" "Lcom/example/whisker/whisker/PrimitiveType;" (.ref w8)) (E0 : Exa Z h0 w0 "com/example/whisker/whisker/PrimitiveType") (E1 : Exa Z h0 w1 "com/example/whisker/whisker/PrimitiveType") (E2 : Exa Z h0 w2 "com/example/whisker/whisker/PrimitiveType") (E3 : Exa Z h0 w3 "com/example/whisker/whisker/PrimitiveType") (E4 : Exa Z h0 w4 "com/example/whisker/whisker/PrimitiveType") (E5 : Exa Z h0 w5 "com/example/whisker/whisker/PrimitiveType") (E6 : Exa Z h0 w6 "com/example/whisker/whisker/PrimitiveType") (E7 : Exa Z h0 w7 "com/example/whisker/whisker/PrimitiveType") (E8 : Exa Z h0 w8 "com/example/whisker/whisker/PrimitiveType") (F0 : Fld Z h0 w0 "java/lang/Enum" "ordinal" "I" (.int 0)) (F1 : Fld Z h0 w1 "java/lang/Enum" "ordinal" "I" (.int 1)) (F2 : Fld Z h0 w2 "java/lang/Enum" "ordinal" "I" (.int 2)) (F3 : Fld Z h0 w3 "java/lang/Enum" "ordinal" "I" (.int 3)) (F4 : Fld Z h0 w4 "java/lang/Enum" "ordinal" "I" (.int 4)) (F5 : Fld Z h0 w5 "java/lang/Enum" "ordinal" "I" (.int 5)) (F6 : Fld Z h0 w6 "java/lang/Enum" "ordinal" "I" (.int 6)) (F7 : Fld Z h0 w7 "java/lang/Enum" "ordinal" "I" (.int 7)) (F8 : Fld Z h0 w8 "java/lang/Enum" "ordinal" "I" (.int 8)) (d1_0 : w1 ≠ w0) (d2_0 : w2 ≠ w0) (d2_1 : w2 ≠ w1) (d3_0 : w3 ≠ w0) (d3_1 : w3 ≠ w1) (d3_2 : w3 ≠ w2) (d4_0 : w4 ≠ w0) (d4_1 : w4 ≠ w1) (d4_2 : w4 ≠ w2) (d4_3 : w4 ≠ w3) (d5_0 : w5 ≠ w0) (d5_1 : w5 ≠ w1) (d5_2 : w5 ≠ w2) (d5_3 : w5 ≠ w3) (d5_4 : w5 ≠ w4) (d6_0 : w6 ≠ w0) (d6_1 : w6 ≠ w1) (d6_2 : w6 ≠ w2) (d6_3 : w6 ≠ w3) (d6_4 : w6 ≠ w4) (d6_5 : w6 ≠ w5) (d7_0 : w7 ≠ w0) (d7_1 : w7 ≠ w1) (d7_2 : w7 ≠ w2) (d7_3 : w7 ≠ w3) (d7_4 : w7 ≠ w4) (d7_5 : w7 ≠ w5) (d7_6 : w7 ≠ w6) (d8_0 : w8 ≠ w0) (d8_1 : w8 ≠ w1) (d8_2 : w8 ≠ w2) (d8_3 : w8 ≠ w3) (d8_4 : w8 ≠ w4) (d8_5 : w8 ≠ w5) (d8_6 : w8 ≠ w6) (d8_7 : w8 ≠ w7) :
    MetFree l x (head1 (Jvm.Cond.code x code maxLocals ret :: ws) room_1) (fun a U => a = #[(.int p1), (.int p2)] ∧ Z.Warmed39 U.vm ∧ U.heap = h0) (fun _ _ _ _ _ => True) (fun _ U o U' => ∃ v L, o = .returned v ∧ QL Z p1 p2 w0 w1 w2 w3 w4 w5 w6 w7 w8 h0 n0 v U'.heap L ∧ FrameEnd U o U' L room_1.cells room_1.slots) := by
  refine MetFree.of_bodySF (plainFor_of_name pnL) hisR ?_
  intro p e s m args below meth c s₁ Bd hml0 hP hK
  obtain ⟨rfl, hZ, hh⟩ := hP
  have hx := Bd.exec
  have hby := Bd.bytes
  have hml : c.maxLocals = 9 := hml0
  have hown : s.vm.findClass "com/example/whisker/whisker/PrimitiveTypeWidensToPinLaw" = some m.cls := findClass_of_methodNamed Bd.named
  have hnm := (name_of_methodNamed Bd.named Bd.method).1
  have X0 : Stand p l e room_1 s m #[(.int p1), (.int p2)] below meth c s₁ [] 0 0 := Stand.of_body Bd
  have e0 : s₁.heap = h0 := by rw [← hh, Bd.state]; rfl
  have N0 := Fr.nil n0
  have pre0 : Go p e below s₁ (mkF m 0 #[.val (.int p1), .val (.int p2), .unset, .unset, .unset, .unset, .unset, .unset, .unset] []) s₁ (entryFrame m #[(.int p1), (.int p2)] maxLocals) := fun t k => castTop (efL m p1 p2) k
  obtain ⟨i1, e_i1⟩ : ∃ z : Int32, z = ((p1 &&& (2147483647 : Int32)) % (9 : Int32)) := ⟨_, rfl⟩
  obtain ⟨j1, e_j1⟩ : ∃ z : Int32, z = ((p2 &&& (2147483647 : Int32)) % (9 : Int32)) := ⟨_, rfl⟩
  have pre1 : Go p e below s₁ (mkF m 16 #[.val (.int p1), .val (.int p2), .val (.int i1), .val (.int j1), .unset, .unset, .unset, .unset, .unset] []) s₁ (entryFrame m #[(.int p1), (.int p2)] maxLocals) := fun t k => pre0 t (by
      show Steps p.tables e below (s₁.setTop (mkF m 0 #[.val (.int p1), .val (.int p2), .unset, .unset, .unset, .unset, .unset, .unset, .unset] [])) t
      refine XS.iloadN X0.here hx rfl (hb hby at_0) rfl ?_
      show Steps p.tables e below (s₁.setTop (mkF m 1 #[.val (.int p1), .val (.int p2), .unset, .unset, .unset, .unset, .unset, .unset, .unset] [(.int p1)])) t
      refine X0.ldcInt hx hown (mvT hZ (hw _ (List.mem_of_getElem? (i := 0) rfl))) (g := (mkF m 1 #[.val (.int p1), .val (.int p2), .unset, .unset, .unset, .unset, .unset, .unset, .unset] [(.int p1)])) rfl (hb hby at_1) _ ?_
      show Steps p.tables e below (s₁.setTop (mkF m 3 #[.val (.int p1), .val (.int p2), .unset, .unset, .unset, .unset, .unset, .unset, .unset] [(.int (2147483647 : Int32)), (.int p1)])) t
      refine XS.iand X0.here hx rfl (hb hby at_3) rfl ?_
      show Steps p.tables e below (s₁.setTop (mkF m 4 #[.val (.int p1), .val (.int p2), .unset, .unset, .unset, .unset, .unset, .unset, .unset] [(.int (p1 &&& (2147483647 : Int32)))])) t
      refine XS.bipush X0.here hx rfl (hb hby at_4) ?_
      show Steps p.tables e below (s₁.setTop (mkF m 6 #[.val (.int p1), .val (.int p2), .unset, .unset, .unset, .unset, .unset, .unset, .unset] [(.int (9 : Int32)), (.int (p1 &&& (2147483647 : Int32)))])) t
      refine iremM X0 hx rfl (hb hby at_6) rfl (by decide) ?_
      show Steps p.tables e below (s₁.setTop (mkF m 7 #[.val (.int p1), .val (.int p2), .unset, .unset, .unset, .unset, .unset, .unset, .unset] [(.int ((p1 &&& (2147483647 : Int32)) % (9 : Int32)))])) t
      refine XS.istoreN X0.here hx rfl (hb hby at_7) rfl (l' := #[.val (.int p1), .val (.int p2), .val (.int i1), .unset, .unset, .unset, .unset, .unset, .unset]) (by rw [e_i1]; rfl) ?_
      show Steps p.tables e below (s₁.setTop (mkF m 8 #[.val (.int p1), .val (.int p2), .val (.int i1), .unset, .unset, .unset, .unset, .unset, .unset] [])) t
      refine XS.iloadN X0.here hx rfl (hb hby at_8) rfl ?_
      show Steps p.tables e below (s₁.setTop (mkF m 9 #[.val (.int p1), .val (.int p2), .val (.int i1), .unset, .unset, .unset, .unset, .unset, .unset] [(.int p2)])) t
      refine X0.ldcInt hx hown (mvT hZ (hw _ (List.mem_of_getElem? (i := 0) rfl))) (g := (mkF m 9 #[.val (.int p1), .val (.int p2), .val (.int i1), .unset, .unset, .unset, .unset, .unset, .unset] [(.int p2)])) rfl (hb hby at_9) _ ?_
      show Steps p.tables e below (s₁.setTop (mkF m 11 #[.val (.int p1), .val (.int p2), .val (.int i1), .unset, .unset, .unset, .unset, .unset, .unset] [(.int (2147483647 : Int32)), (.int p2)])) t
      refine XS.iand X0.here hx rfl (hb hby at_11) rfl ?_
      show Steps p.tables e below (s₁.setTop (mkF m 12 #[.val (.int p1), .val (.int p2), .val (.int i1), .unset, .unset, .unset, .unset, .unset, .unset] [(.int (p2 &&& (2147483647 : Int32)))])) t
      refine XS.bipush X0.here hx rfl (hb hby at_12) ?_
      show Steps p.tables e below (s₁.setTop (mkF m 14 #[.val (.int p1), .val (.int p2), .val (.int i1), .unset, .unset, .unset, .unset, .unset, .unset] [(.int (9 : Int32)), (.int (p2 &&& (2147483647 : Int32)))])) t
      refine iremM X0 hx rfl (hb hby at_14) rfl (by decide) ?_
      show Steps p.tables e below (s₁.setTop (mkF m 15 #[.val (.int p1), .val (.int p2), .val (.int i1), .unset, .unset, .unset, .unset, .unset, .unset] [(.int ((p2 &&& (2147483647 : Int32)) % (9 : Int32)))])) t
      refine XS.istoreN X0.here hx rfl (hb hby at_15) rfl (l' := #[.val (.int p1), .val (.int p2), .val (.int i1), .val (.int j1), .unset, .unset, .unset, .unset, .unset]) (by rw [e_j1]; rfl) ?_
      exact k)
  have hi1 : i1 = 0 ∨ i1 = 1 ∨ i1 = 2 ∨ i1 = 3 ∨ i1 = 4 ∨ i1 = 5 ∨ i1 = 6 ∨ i1 = 7 ∨ i1 = 8 := by rw [e_i1]; exact own_m9 p1
  have hj1 : j1 = 0 ∨ j1 = 1 ∨ j1 = 2 ∨ j1 = 3 ∨ j1 = 4 ∨ j1 = 5 ∨ j1 = 6 ∨ j1 = 7 ∨ j1 = 8 := by rw [e_j1]; exact own_m9 p2
  have pre2 : Go p e below s₁ (mkF m 17 #[.val (.int p1), .val (.int p2), .val (.int i1), .val (.int j1), .unset, .unset, .unset, .unset, .unset] [(.int i1)]) s₁ (entryFrame m #[(.int p1), (.int p2)] maxLocals) := fun t k => pre1 t (by
      show Steps p.tables e below (s₁.setTop (mkF m 16 #[.val (.int p1), .val (.int p2), .val (.int i1), .val (.int j1), .unset, .unset, .unset, .unset, .unset] [])) t
      refine XS.iloadN X0.here hx rfl (hb hby at_16) rfl ?_
      exact k)
  obtain ⟨si, e_si⟩ : ∃ z : Addr, z = pickF i1 w0 w1 w2 w3 w4 w5 w6 w7 w8 := ⟨_, rfl⟩
  obtain ⟨_, _, ⟨T3, L3, k3, n3⟩, -, X3, ⟨Lc3, hQ3, l3, y3, z3⟩, st3⟩ := Jvm.LawKit.callS X0 hx (y := (⟨"com/example/whisker/whisker/PrimitiveTypeWidensToPinLaw", "pick", "(I)Lcom/example/whisker/whisker/PrimitiveType;"⟩ : MethodName)) hown (mvT hZ (hw _ (List.mem_of_getElem? (i := 1) rfl))) (mvT hZ (hw _ (List.mem_of_getElem? (i := 2) rfl))) (mvT hZ (hw _ (List.mem_of_getElem? (i := 3) rfl))) (mvT hZ (hw _ (List.mem_of_getElem? (i := 4) rfl))) (by decide) (backOf (W := 0) (rmP l Z a0 hw [] i1 w0 w1 w2 w3 w4 w5 w6 w7 w8 si h0 n0 Z0 S0 S1 S2 S3 S4 S5 S6 S7 S8 e_si.symm) hZ (hw _ (List.mem_of_getElem? (i := 4) rfl)) (hw _ (List.mem_of_getElem? (i := 3) rfl)) (by decide) (by decide)) (g := (mkF m 17 #[.val (.int p1), .val (.int p2), .val (.int i1), .val (.int j1), .unset, .unset, .unset, .unset, .unset] [(.int i1)])) rfl (by rw [hml]; rfl) (argsL := [(.int i1)]) (rest := []) (lenOf pdL_0 rfl) rfl (by show 2 * 0 + _ ≤ _; exact Nat.le_of_eq rfl) (hb hby at_17) (fun _ _ => ⟨rfl, e0, (by decide : 0 + 0 ≤ _), (by decide : 0 + 0 ≤ _)⟩)
  dsimp only [Pt.U, Pt.locs, Pt.cells, Pt.slots] at X3 l3 y3 z3 st3 hQ3
  subst l3 y3 z3
  obtain ⟨rfl, N3q, hq3⟩ := hQ3
  have N3 := Fr.app N0 N3q
  have pre4 : Go p e below T3 (mkF m 20 #[.val (.int p1), .val (.int p2), .val (.int i1), .val (.int j1), .unset, .unset, .unset, .unset, .unset] [(.ref si)]) s₁ (entryFrame m #[(.int p1), (.int p2)] maxLocals) := fun t k => pre2 t (st3 t k)
  have e3 : T3.heap = h0 := hq3
  have pre5 : Go p e below T3 (mkF m 23 #[.val (.int p1), .val (.int p2), .val (.int i1), .val (.int j1), .val (.ref si), .unset, .unset, .unset, .unset] [(.int j1)]) s₁ (entryFrame m #[(.int p1), (.int p2)] maxLocals) := fun t k => pre4 t (by
      show Steps p.tables e below (T3.setTop (mkF m 20 #[.val (.int p1), .val (.int p2), .val (.int i1), .val (.int j1), .unset, .unset, .unset, .unset, .unset] [(.ref si)])) t
      refine XS.astore X3.here hx rfl (hb hby at_20) rfl rfl (l' := #[.val (.int p1), .val (.int p2), .val (.int i1), .val (.int j1), .val (.ref si), .unset, .unset, .unset, .unset]) rfl ?_
      show Steps p.tables e below (T3.setTop (mkF m 22 #[.val (.int p1), .val (.int p2), .val (.int i1), .val (.int j1), .val (.ref si), .unset, .unset, .unset, .unset] [])) t
      refine XS.iloadN X3.here hx rfl (hb hby at_22) rfl ?_
      exact k)
  obtain ⟨sj, e_sj⟩ : ∃ z : Addr, z = pickF j1 w0 w1 w2 w3 w4 w5 w6 w7 w8 := ⟨_, rfl⟩
  obtain ⟨_, _, ⟨T6, L6, k6, n6⟩, -, X6, ⟨Lc6, hQ6, l6, y6, z6⟩, st6⟩ := Jvm.LawKit.callS X3 hx (y := (⟨"com/example/whisker/whisker/PrimitiveTypeWidensToPinLaw", "pick", "(I)Lcom/example/whisker/whisker/PrimitiveType;"⟩ : MethodName)) hown (mvT hZ (hw _ (List.mem_of_getElem? (i := 1) rfl))) (mvT hZ (hw _ (List.mem_of_getElem? (i := 2) rfl))) (mvT hZ (hw _ (List.mem_of_getElem? (i := 3) rfl))) (mvT hZ (hw _ (List.mem_of_getElem? (i := 4) rfl))) (by decide) (backOf (W := 0) (rmP l Z a0 hw [] j1 w0 w1 w2 w3 w4 w5 w6 w7 w8 sj h0 n0 Z0 S0 S1 S2 S3 S4 S5 S6 S7 S8 e_sj.symm) hZ (hw _ (List.mem_of_getElem? (i := 4) rfl)) (hw _ (List.mem_of_getElem? (i := 3) rfl)) (by decide) (by decide)) (g := (mkF m 23 #[.val (.int p1), .val (.int p2), .val (.int i1), .val (.int j1), .val (.ref si), .unset, .unset, .unset, .unset] [(.int j1)])) rfl (by rw [hml]; rfl) (argsL := [(.int j1)]) (rest := []) (lenOf pdL_0 rfl) rfl (by show 2 * 0 + _ ≤ _; exact Nat.le_of_eq rfl) (hb hby at_23) (fun _ _ => ⟨rfl, e3, (by decide : 0 + 0 ≤ _), (by decide : 0 + 0 ≤ _)⟩)
  dsimp only [Pt.U, Pt.locs, Pt.cells, Pt.slots] at X6 l6 y6 z6 st6 hQ6
  subst l6 y6 z6
  obtain ⟨rfl, N6q, hq6⟩ := hQ6
  have N6 := Fr.app N3 N6q
  have pre7 : Go p e below T6 (mkF m 26 #[.val (.int p1), .val (.int p2), .val (.int i1), .val (.int j1), .val (.ref si), .unset, .unset, .unset, .unset] [(.ref sj)]) s₁ (entryFrame m #[(.int p1), (.int p2)] maxLocals) := fun t k => pre5 t (st6 t k)
  have e6 : T6.heap = h0 := hq6
  have pre8 : Go p e below T6 (mkF m 29 #[.val (.int p1), .val (.int p2), .val (.int i1), .val (.int j1), .val (.ref si), .val (.ref sj), .unset, .unset, .unset] [(.int i1)]) s₁ (entryFrame m #[(.int p1), (.int p2)] maxLocals) := fun t k => pre7 t (by
      show Steps p.tables e below (T6.setTop (mkF m 26 #[.val (.int p1), .val (.int p2), .val (.int i1), .val (.int j1), .val (.ref si), .unset, .unset, .unset, .unset] [(.ref sj)])) t
      refine XS.astore X6.here hx rfl (hb hby at_26) rfl rfl (l' := #[.val (.int p1), .val (.int p2), .val (.int i1), .val (.int j1), .val (.ref si), .val (.ref sj), .unset, .unset, .unset]) rfl ?_
      show Steps p.tables e below (T6.setTop (mkF m 28 #[.val (.int p1), .val (.int p2), .val (.int i1), .val (.int j1), .val (.ref si), .val (.ref sj), .unset, .unset, .unset] [])) t
      refine XS.iloadN X6.here hx rfl (hb hby at_28) rfl ?_
      exact k)
  obtain ⟨_, _, ⟨T9, L9, k9, n9⟩, -, X9, ⟨Lc9, hQ9, l9, y9, z9⟩, st9⟩ := Jvm.LawKit.callS X6 hx (y := (⟨"com/example/whisker/whisker/PrimitiveTypeWidensToPinLaw", "rank", "(I)I"⟩ : MethodName)) hown (mvT hZ (hw _ (List.mem_of_getElem? (i := 10) rfl))) (mvT hZ (hw _ (List.mem_of_getElem? (i := 11) rfl))) (mvT hZ (hw _ (List.mem_of_getElem? (i := 3) rfl))) (mvT hZ (hw _ (List.mem_of_getElem? (i := 12) rfl))) (by decide) (backOf (W := 0) (rmK l Z a0 hw [] i1 (rankF i1) h0 n0 Z0 rfl) hZ (hw _ (List.mem_of_getElem? (i := 12) rfl)) (hw _ (List.mem_of_getElem? (i := 3) rfl)) (by decide) (by decide)) (g := (mkF m 29 #[.val (.int p1), .val (.int p2), .val (.int i1), .val (.int j1), .val (.ref si), .val (.ref sj), .unset, .unset, .unset] [(.int i1)])) rfl (by rw [hml]; rfl) (argsL := [(.int i1)]) (rest := []) (lenOf pdL_1 rfl) rfl (by show 2 * 0 + _ ≤ _; exact Nat.le_of_eq rfl) (hb hby at_29) (fun _ _ => ⟨rfl, e6, (by decide : 0 + 0 ≤ _), (by decide : 0 + 0 ≤ _)⟩)
  dsimp only [Pt.U, Pt.locs, Pt.cells, Pt.slots] at X9 l9 y9 z9 st9 hQ9
  subst l9 y9 z9
  obtain ⟨rfl, N9q, hq9⟩ := hQ9
  have N9 := Fr.app N6 N9q
  have pre10 : Go p e below T9 (mkF m 32 #[.val (.int p1), .val (.int p2), .val (.int i1), .val (.int j1), .val (.ref si), .val (.ref sj), .unset, .unset, .unset] [(.int (rankF i1))]) s₁ (entryFrame m #[(.int p1), (.int p2)] maxLocals) := fun t k => pre8 t (st9 t k)
  have e9 : T9.heap = h0 := hq9
  have pre11 : Go p e below T9 (mkF m 35 #[.val (.int p1), .val (.int p2), .val (.int i1), .val (.int j1), .val (.ref si), .val (.ref sj), .val (.int (rankF i1)), .unset, .unset] [(.int j1)]) s₁ (entryFrame m #[(.int p1), (.int p2)] maxLocals) := fun t k => pre10 t (by
      show Steps p.tables e below (T9.setTop (mkF m 32 #[.val (.int p1), .val (.int p2), .val (.int i1), .val (.int j1), .val (.ref si), .val (.ref sj), .unset, .unset, .unset] [(.int (rankF i1))])) t
      refine XS.istore X9.here hx rfl (hb hby at_32) rfl (l' := #[.val (.int p1), .val (.int p2), .val (.int i1), .val (.int j1), .val (.ref si), .val (.ref sj), .val (.int (rankF i1)), .unset, .unset]) rfl ?_
      show Steps p.tables e below (T9.setTop (mkF m 34 #[.val (.int p1), .val (.int p2), .val (.int i1), .val (.int j1), .val (.ref si), .val (.ref sj), .val (.int (rankF i1)), .unset, .unset] [])) t
      refine XS.iloadN X9.here hx rfl (hb hby at_34) rfl ?_
      exact k)
  obtain ⟨_, _, ⟨T12, L12, k12, n12⟩, -, X12, ⟨Lc12, hQ12, l12, y12, z12⟩, st12⟩ := Jvm.LawKit.callS X9 hx (y := (⟨"com/example/whisker/whisker/PrimitiveTypeWidensToPinLaw", "rank", "(I)I"⟩ : MethodName)) hown (mvT hZ (hw _ (List.mem_of_getElem? (i := 10) rfl))) (mvT hZ (hw _ (List.mem_of_getElem? (i := 11) rfl))) (mvT hZ (hw _ (List.mem_of_getElem? (i := 3) rfl))) (mvT hZ (hw _ (List.mem_of_getElem? (i := 12) rfl))) (by decide) (backOf (W := 0) (rmK l Z a0 hw [] j1 (rankF j1) h0 n0 Z0 rfl) hZ (hw _ (List.mem_of_getElem? (i := 12) rfl)) (hw _ (List.mem_of_getElem? (i := 3) rfl)) (by decide) (by decide)) (g := (mkF m 35 #[.val (.int p1), .val (.int p2), .val (.int i1), .val (.int j1), .val (.ref si), .val (.ref sj), .val (.int (rankF i1)), .unset, .unset] [(.int j1)])) rfl (by rw [hml]; rfl) (argsL := [(.int j1)]) (rest := []) (lenOf pdL_1 rfl) rfl (by show 2 * 0 + _ ≤ _; exact Nat.le_of_eq rfl) (hb hby at_35) (fun _ _ => ⟨rfl, e9, (by decide : 0 + 0 ≤ _), (by decide : 0 + 0 ≤ _)⟩)
  dsimp only [Pt.U, Pt.locs, Pt.cells, Pt.slots] at X12 l12 y12 z12 st12 hQ12
  subst l12 y12 z12
  obtain ⟨rfl, N12q, hq12⟩ := hQ12
  have N12 := Fr.app N9 N12q
  have pre13 : Go p e below T12 (mkF m 38 #[.val (.int p1), .val (.int p2), .val (.int i1), .val (.int j1), .val (.ref si), .val (.ref sj), .val (.int (rankF i1)), .unset, .unset] [(.int (rankF j1))]) s₁ (entryFrame m #[(.int p1), (.int p2)] maxLocals) := fun t k => pre11 t (st12 t k)
  have e12 : T12.heap = h0 := hq12
  have pre14 : Go p e below T12 (mkF m 42 #[.val (.int p1), .val (.int p2), .val (.int i1), .val (.int j1), .val (.ref si), .val (.ref sj), .val (.int (rankF i1)), .val (.int (rankF j1)), .unset] [(.int j1), (.int i1)]) s₁ (entryFrame m #[(.int p1), (.int p2)] maxLocals) := fun t k => pre13 t (by
      show Steps p.tables e below (T12.setTop (mkF m 38 #[.val (.int p1), .val (.int p2), .val (.int i1), .val (.int j1), .val (.ref si), .val (.ref sj), .val (.int (rankF i1)), .unset, .unset] [(.int (rankF j1))])) t
      refine XS.istore X12.here hx rfl (hb hby at_38) rfl (l' := #[.val (.int p1), .val (.int p2), .val (.int i1), .val (.int j1), .val (.ref si), .val (.ref sj), .val (.int (rankF i1)), .val (.int (rankF j1)), .unset]) rfl ?_
      show Steps p.tables e below (T12.setTop (mkF m 40 #[.val (.int p1), .val (.int p2), .val (.int i1), .val (.int j1), .val (.ref si), .val (.ref sj), .val (.int (rankF i1)), .val (.int (rankF j1)), .unset] [])) t
      refine XS.iloadN X12.here hx rfl (hb hby at_40) rfl ?_
      show Steps p.tables e below (T12.setTop (mkF m 41 #[.val (.int p1), .val (.int p2), .val (.int i1), .val (.int j1), .val (.ref si), .val (.ref sj), .val (.int (rankF i1)), .val (.int (rankF j1)), .unset] [(.int i1)])) t
      refine XS.iloadN X12.here hx rfl (hb hby at_41) rfl ?_
      exact k)
  by_cases hc42 : i1 = j1
  · have pre15 : Go p e below T12 (mkF m 67 #[.val (.int p1), .val (.int p2), .val (.int i1), .val (.int j1), .val (.ref si), .val (.ref sj), .val (.int (rankF i1)), .val (.int (rankF j1)), .unset] []) s₁ (entryFrame m #[(.int p1), (.int p2)] maxLocals) := fun t k => pre14 t (XS.icmpYes X12.here hx rfl (pc0 := 42) (pc' := 67) rfl (hb hby at_42) rfl (teq hc42).1 (by decide) (by decide) k)
    have pre16 : Go p e below T12 (mkF m 78 #[.val (.int p1), .val (.int p2), .val (.int i1), .val (.int j1), .val (.ref si), .val (.ref sj), .val (.int (rankF i1)), .val (.int (rankF j1)), .val (.int (1 : Int32))] [(.ref sj), (.ref si)]) s₁ (entryFrame m #[(.int p1), (.int p2)] maxLocals) := fun t k => pre15 t (by
        show Steps p.tables e below (T12.setTop (mkF m 67 #[.val (.int p1), .val (.int p2), .val (.int i1), .val (.int j1), .val (.ref si), .val (.ref sj), .val (.int (rankF i1)), .val (.int (rankF j1)), .unset] [])) t
        refine XS.iconst X12.here hx rfl (hb hby at_67) ?_
        show Steps p.tables e below (T12.setTop (mkF m 68 #[.val (.int p1), .val (.int p2), .val (.int i1), .val (.int j1), .val (.ref si), .val (.ref sj), .val (.int (rankF i1)), .val (.int (rankF j1)), .unset] [(.int (1 : Int32))])) t
        refine XS.goto X12.here hx rfl (pc0 := 68) (pc' := 72) rfl (hb hby at_68) (by decide) (by decide) ?_
        show Steps p.tables e below (T12.setTop (mkF m 72 #[.val (.int p1), .val (.int p2), .val (.int i1), .val (.int j1), .val (.ref si), .val (.ref sj), .val (.int (rankF i1)), .val (.int (rankF j1)), .unset] [(.int (1 : Int32))])) t
        refine XS.istore X12.here hx rfl (hb hby at_72) rfl (l' := #[.val (.int p1), .val (.int p2), .val (.int i1), .val (.int j1), .val (.ref si), .val (.ref sj), .val (.int (rankF i1)), .val (.int (rankF j1)), .val (.int (1 : Int32))]) rfl ?_
        show Steps p.tables e below (T12.setTop (mkF m 74 #[.val (.int p1), .val (.int p2), .val (.int i1), .val (.int j1), .val (.ref si), .val (.ref sj), .val (.int (rankF i1)), .val (.int (rankF j1)), .val (.int (1 : Int32))] [])) t
        refine XS.aload X12.here hx rfl (hb hby at_74) rfl rfl ?_
        show Steps p.tables e below (T12.setTop (mkF m 76 #[.val (.int p1), .val (.int p2), .val (.int i1), .val (.int j1), .val (.ref si), .val (.ref sj), .val (.int (rankF i1)), .val (.int (rankF j1)), .val (.int (1 : Int32))] [(.ref si)])) t
        refine XS.aload X12.here hx rfl (hb hby at_76) rfl rfl ?_
        exact k)
    have Esi : Exa Z h0 si "com/example/whisker/whisker/PrimitiveType" := by
      rw [e_si]; rcases hi1 with rfl | rfl | rfl | rfl | rfl | rfl | rfl | rfl | rfl
      all_goals simp only [pickF]
      all_goals first | exact E0 | exact E1 | exact E2 | exact E3 | exact E4 | exact E5 | exact E6 | exact E7 | exact E8
    have hex : expF i1 j1 = 1 := by unfold expF; rw [if_pos hc42]
    obtain ⟨cq17, kq17, q17a, q17b, q17c⟩ := isOf hZ e12 Esi
    obtain ⟨_, _, ⟨T17, L17, k17, n17⟩, -, X17, ⟨Lc17, hQ17, l17, y17, z17⟩, st17⟩ := X12.virtualBack hx (y := (⟨"com/example/whisker/whisker/PrimitiveType", "widensTo", "(Lcom/example/whisker/whisker/PrimitiveType;)Z"⟩ : MethodName)) (z := (⟨"com/example/whisker/whisker/PrimitiveType", "widensTo", "(Lcom/example/whisker/whisker/PrimitiveType;)Z"⟩ : MethodName)) hown (mvT hZ (hw _ (List.mem_of_getElem? (i := 13) rfl))) (mvT hZ (hw _ (List.mem_of_getElem? (i := 14) rfl))) (notFace_of_selects (args := #[]) (mvT hZ (hw _ (List.mem_of_getElem? (i := 16) rfl)))) (mvT hZ (hw _ (List.mem_of_getElem? (i := 16) rfl))) (mvT hZ (hw _ (List.mem_of_getElem? (i := 15) rfl))) (by decide) (backOf (W := 0) (rmX l Z a0 hw [] si sj i1 j1 w0 w1 w2 w3 w4 w5 w6 w7 w8 1 h0 n0 Z0 S0 S1 S2 S3 S4 S5 S6 S7 S8 E0 E1 E2 E3 E4 E5 E6 E7 E8 F0 F1 F2 F3 F4 F5 F6 F7 F8 d1_0 d2_0 d2_1 d3_0 d3_1 d3_2 d4_0 d4_1 d4_2 d4_3 d5_0 d5_1 d5_2 d5_3 d5_4 d6_0 d6_1 d6_2 d6_3 d6_4 d6_5 d7_0 d7_1 d7_2 d7_3 d7_4 d7_5 d7_6 d8_0 d8_1 d8_2 d8_3 d8_4 d8_5 d8_6 d8_7 hi1 hj1 e_si e_sj hex) hZ (hw _ (List.mem_of_getElem? (i := 17) rfl)) (hw _ (List.mem_of_getElem? (i := 6) rfl)) (by decide) (by decide)) q17a q17c (g := (mkF m 78 #[.val (.int p1), .val (.int p2), .val (.int i1), .val (.int j1), .val (.ref si), .val (.ref sj), .val (.int (rankF i1)), .val (.int (rankF j1)), .val (.int (1 : Int32))] [(.ref sj), (.ref si)])) rfl (by rw [hml]; rfl) (Steps.refl _) (argsL := [(.ref sj)]) (rest := []) (lenOf pdL_2 rfl) rfl (by show 2 * 0 + _ ≤ _; exact Nat.le_of_eq rfl) (hb hby at_78) (fun _ _ => ⟨rfl, e12, (by decide : 0 + 0 ≤ _), (by decide : 0 + 0 ≤ _)⟩)
    dsimp only [Pt.U, Pt.locs, Pt.cells, Pt.slots] at X17 l17 y17 z17 st17 hQ17
    subst l17 y17 z17
    obtain ⟨rfl, N17q, hq17⟩ := hQ17
    have N17 := Fr.app N12 N17q
    have pre18 : Go p e below T17 (mkF m 81 #[.val (.int p1), .val (.int p2), .val (.int i1), .val (.int j1), .val (.ref si), .val (.ref sj), .val (.int (rankF i1)), .val (.int (rankF j1)), .val (.int (1 : Int32))] [(.int (1 : Int32))]) s₁ (entryFrame m #[(.int p1), (.int p2)] maxLocals) := fun t k => pre16 t (st17.trans k)
    have e17 : T17.heap = h0 := hq17
    have pre19 : Go p e below T17 (mkF m 83 #[.val (.int p1), .val (.int p2), .val (.int i1), .val (.int j1), .val (.ref si), .val (.ref sj), .val (.int (rankF i1)), .val (.int (rankF j1)), .val (.int (1 : Int32))] [(.int (1 : Int32)), (.int (1 : Int32))]) s₁ (entryFrame m #[(.int p1), (.int p2)] maxLocals) := fun t k => pre18 t (by
        show Steps p.tables e below (T17.setTop (mkF m 81 #[.val (.int p1), .val (.int p2), .val (.int i1), .val (.int j1), .val (.ref si), .val (.ref sj), .val (.int (rankF i1)), .val (.int (rankF j1)), .val (.int (1 : Int32))] [(.int (1 : Int32))])) t
        refine XS.iload X17.here hx rfl (hb hby at_81) rfl ?_
        exact k)
    have pre20 : Go p e below T17 (mkF m 86 #[.val (.int p1), .val (.int p2), .val (.int i1), .val (.int j1), .val (.ref si), .val (.ref sj), .val (.int (rankF i1)), .val (.int (rankF j1)), .val (.int (1 : Int32))] []) s₁ (entryFrame m #[(.int p1), (.int p2)] maxLocals) := fun t k => pre19 t (XS.icmpNo X17.here hx rfl (hb hby at_83) rfl (teq (by decide : (1 : Int32) = (1 : Int32))).2 k)
    have pre21 : Go p e below T17 (mkF m 91 #[.val (.int p1), .val (.int p2), .val (.int i1), .val (.int j1), .val (.ref si), .val (.ref sj), .val (.int (rankF i1)), .val (.int (rankF j1)), .val (.int (1 : Int32))] [(.int (1 : Int32))]) s₁ (entryFrame m #[(.int p1), (.int p2)] maxLocals) := fun t k => pre20 t (by
        show Steps p.tables e below (T17.setTop (mkF m 86 #[.val (.int p1), .val (.int p2), .val (.int i1), .val (.int j1), .val (.ref si), .val (.ref sj), .val (.int (rankF i1)), .val (.int (rankF j1)), .val (.int (1 : Int32))] [])) t
        refine XS.iconst X17.here hx rfl (hb hby at_86) ?_
        show Steps p.tables e below (T17.setTop (mkF m 87 #[.val (.int p1), .val (.int p2), .val (.int i1), .val (.int j1), .val (.ref si), .val (.ref sj), .val (.int (rankF i1)), .val (.int (rankF j1)), .val (.int (1 : Int32))] [(.int (1 : Int32))])) t
        refine XS.goto X17.here hx rfl (pc0 := 87) (pc' := 91) rfl (hb hby at_87) (by decide) (by decide) ?_
        exact k)
    have hnr : Value.int (nar .boolean (1 : Int32)) = (.int (1 : Int32)) := by rfl
    obtain ⟨fs, hr, hrun, hended, hW, hsame⟩ := X17.leave (v := some (.int (1 : Int32))) (fun h => by rw [Bd.returns] at h; cases h)
    refine ⟨_, _, pre21 _ (retN X17 hx (t := .boolean) Bd.returns (by simp) (hb hby at_91) (hnr ▸ hr)), hrun, hended, _, _, rfl, ?_, ⟨_, rfl⟩, hW, hsame.mono (by decide) (by decide)⟩
    show QL Z p1 p2 w0 w1 w2 w3 w4 w5 w6 w7 w8 h0 n0 _ T17.heap _
    rw [e17]
    exact ⟨rfl, N17⟩
  · have pre22 : Go p e below T12 (mkF m 45 #[.val (.int p1), .val (.int p2), .val (.int i1), .val (.int j1), .val (.ref si), .val (.ref sj), .val (.int (rankF i1)), .val (.int (rankF j1)), .unset] []) s₁ (entryFrame m #[(.int p1), (.int p2)] maxLocals) := fun t k => pre14 t (XS.icmpNo X12.here hx rfl (hb hby at_42) rfl (feq hc42).1 k)
    have pre23 : Go p e below T12 (mkF m 47 #[.val (.int p1), .val (.int p2), .val (.int i1), .val (.int j1), .val (.ref si), .val (.ref sj), .val (.int (rankF i1)), .val (.int (rankF j1)), .unset] [(.int (rankF i1))]) s₁ (entryFrame m #[(.int p1), (.int p2)] maxLocals) := fun t k => pre22 t (by
        show Steps p.tables e below (T12.setTop (mkF m 45 #[.val (.int p1), .val (.int p2), .val (.int i1), .val (.int j1), .val (.ref si), .val (.ref sj), .val (.int (rankF i1)), .val (.int (rankF j1)), .unset] [])) t
        refine XS.iload X12.here hx rfl (hb hby at_45) rfl ?_
        exact k)
    by_cases hc47 : (rankF i1) < (0 : Int32)
    · have pre24 : Go p e below T12 (mkF m 71 #[.val (.int p1), .val (.int p2), .val (.int i1), .val (.int j1), .val (.ref si), .val (.ref sj), .val (.int (rankF i1)), .val (.int (rankF j1)), .unset] []) s₁ (entryFrame m #[(.int p1), (.int p2)] maxLocals) := fun t k => pre23 t (XS.ifYes X12.here hx rfl (pc0 := 47) (pc' := 71) rfl (hb hby at_47) rfl ((if0 _ _).trans (tlt hc47).1) (by decide) (by decide) k)
      have pre25 : Go p e below T12 (mkF m 78 #[.val (.int p1), .val (.int p2), .val (.int i1), .val (.int j1), .val (.ref si), .val (.ref sj), .val (.int (rankF i1)), .val (.int (rankF j1)), .val (.int (0 : Int32))] [(.ref sj), (.ref si)]) s₁ (entryFrame m #[(.int p1), (.int p2)] maxLocals) := fun t k => pre24 t (by
          show Steps p.tables e below (T12.setTop (mkF m 71 #[.val (.int p1), .val (.int p2), .val (.int i1), .val (.int j1), .val (.ref si), .val (.ref sj), .val (.int (rankF i1)), .val (.int (rankF j1)), .unset] [])) t
          refine XS.iconst X12.here hx rfl (hb hby at_71) ?_
          show Steps p.tables e below (T12.setTop (mkF m 72 #[.val (.int p1), .val (.int p2), .val (.int i1), .val (.int j1), .val (.ref si), .val (.ref sj), .val (.int (rankF i1)), .val (.int (rankF j1)), .unset] [(.int (0 : Int32))])) t
          refine XS.istore X12.here hx rfl (hb hby at_72) rfl (l' := #[.val (.int p1), .val (.int p2), .val (.int i1), .val (.int j1), .val (.ref si), .val (.ref sj), .val (.int (rankF i1)), .val (.int (rankF j1)), .val (.int (0 : Int32))]) rfl ?_
          show Steps p.tables e below (T12.setTop (mkF m 74 #[.val (.int p1), .val (.int p2), .val (.int i1), .val (.int j1), .val (.ref si), .val (.ref sj), .val (.int (rankF i1)), .val (.int (rankF j1)), .val (.int (0 : Int32))] [])) t
          refine XS.aload X12.here hx rfl (hb hby at_74) rfl rfl ?_
          show Steps p.tables e below (T12.setTop (mkF m 76 #[.val (.int p1), .val (.int p2), .val (.int i1), .val (.int j1), .val (.ref si), .val (.ref sj), .val (.int (rankF i1)), .val (.int (rankF j1)), .val (.int (0 : Int32))] [(.ref si)])) t
          refine XS.aload X12.here hx rfl (hb hby at_76) rfl rfl ?_
          exact k)
      have Esi : Exa Z h0 si "com/example/whisker/whisker/PrimitiveType" := by
        rw [e_si]; rcases hi1 with rfl | rfl | rfl | rfl | rfl | rfl | rfl | rfl | rfl
        all_goals simp only [pickF]
        all_goals first | exact E0 | exact E1 | exact E2 | exact E3 | exact E4 | exact E5 | exact E6 | exact E7 | exact E8
      have hex : expF i1 j1 = 0 := by unfold expF; rw [if_neg hc42, if_pos hc47]
      obtain ⟨cq26, kq26, q26a, q26b, q26c⟩ := isOf hZ e12 Esi
      obtain ⟨_, _, ⟨T26, L26, k26, n26⟩, -, X26, ⟨Lc26, hQ26, l26, y26, z26⟩, st26⟩ := X12.virtualBack hx (y := (⟨"com/example/whisker/whisker/PrimitiveType", "widensTo", "(Lcom/example/whisker/whisker/PrimitiveType;)Z"⟩ : MethodName)) (z := (⟨"com/example/whisker/whisker/PrimitiveType", "widensTo", "(Lcom/example/whisker/whisker/PrimitiveType;)Z"⟩ : MethodName)) hown (mvT hZ (hw _ (List.mem_of_getElem? (i := 13) rfl))) (mvT hZ (hw _ (List.mem_of_getElem? (i := 14) rfl))) (notFace_of_selects (args := #[]) (mvT hZ (hw _ (List.mem_of_getElem? (i := 16) rfl)))) (mvT hZ (hw _ (List.mem_of_getElem? (i := 16) rfl))) (mvT hZ (hw _ (List.mem_of_getElem? (i := 15) rfl))) (by decide) (backOf (W := 0) (rmX l Z a0 hw [] si sj i1 j1 w0 w1 w2 w3 w4 w5 w6 w7 w8 0 h0 n0 Z0 S0 S1 S2 S3 S4 S5 S6 S7 S8 E0 E1 E2 E3 E4 E5 E6 E7 E8 F0 F1 F2 F3 F4 F5 F6 F7 F8 d1_0 d2_0 d2_1 d3_0 d3_1 d3_2 d4_0 d4_1 d4_2 d4_3 d5_0 d5_1 d5_2 d5_3 d5_4 d6_0 d6_1 d6_2 d6_3 d6_4 d6_5 d7_0 d7_1 d7_2 d7_3 d7_4 d7_5 d7_6 d8_0 d8_1 d8_2 d8_3 d8_4 d8_5 d8_6 d8_7 hi1 hj1 e_si e_sj hex) hZ (hw _ (List.mem_of_getElem? (i := 17) rfl)) (hw _ (List.mem_of_getElem? (i := 6) rfl)) (by decide) (by decide)) q26a q26c (g := (mkF m 78 #[.val (.int p1), .val (.int p2), .val (.int i1), .val (.int j1), .val (.ref si), .val (.ref sj), .val (.int (rankF i1)), .val (.int (rankF j1)), .val (.int (0 : Int32))] [(.ref sj), (.ref si)])) rfl (by rw [hml]; rfl) (Steps.refl _) (argsL := [(.ref sj)]) (rest := []) (lenOf pdL_2 rfl) rfl (by show 2 * 0 + _ ≤ _; exact Nat.le_of_eq rfl) (hb hby at_78) (fun _ _ => ⟨rfl, e12, (by decide : 0 + 0 ≤ _), (by decide : 0 + 0 ≤ _)⟩)
      dsimp only [Pt.U, Pt.locs, Pt.cells, Pt.slots] at X26 l26 y26 z26 st26 hQ26
      subst l26 y26 z26
      obtain ⟨rfl, N26q, hq26⟩ := hQ26
      have N26 := Fr.app N12 N26q
      have pre27 : Go p e below T26 (mkF m 81 #[.val (.int p1), .val (.int p2), .val (.int i1), .val (.int j1), .val (.ref si), .val (.ref sj), .val (.int (rankF i1)), .val (.int (rankF j1)), .val (.int (0 : Int32))] [(.int (0 : Int32))]) s₁ (entryFrame m #[(.int p1), (.int p2)] maxLocals) := fun t k => pre25 t (st26.trans k)
      have e26 : T26.heap = h0 := hq26
      have pre28 : Go p e below T26 (mkF m 83 #[.val (.int p1), .val (.int p2), .val (.int i1), .val (.int j1), .val (.ref si), .val (.ref sj), .val (.int (rankF i1)), .val (.int (rankF j1)), .val (.int (0 : Int32))] [(.int (0 : Int32)), (.int (0 : Int32))]) s₁ (entryFrame m #[(.int p1), (.int p2)] maxLocals) := fun t k => pre27 t (by
          show Steps p.tables e below (T26.setTop (mkF m 81 #[.val (.int p1), .val (.int p2), .val (.int i1), .val (.int j1), .val (.ref si), .val (.ref sj), .val (.int (rankF i1)), .val (.int (rankF j1)), .val (.int (0 : Int32))] [(.int (0 : Int32))])) t
          refine XS.iload X26.here hx rfl (hb hby at_81) rfl ?_
          exact k)
      have pre29 : Go p e below T26 (mkF m 86 #[.val (.int p1), .val (.int p2), .val (.int i1), .val (.int j1), .val (.ref si), .val (.ref sj), .val (.int (rankF i1)), .val (.int (rankF j1)), .val (.int (0 : Int32))] []) s₁ (entryFrame m #[(.int p1), (.int p2)] maxLocals) := fun t k => pre28 t (XS.icmpNo X26.here hx rfl (hb hby at_83) rfl (teq (by decide : (0 : Int32) = (0 : Int32))).2 k)
      have pre30 : Go p e below T26 (mkF m 91 #[.val (.int p1), .val (.int p2), .val (.int i1), .val (.int j1), .val (.ref si), .val (.ref sj), .val (.int (rankF i1)), .val (.int (rankF j1)), .val (.int (0 : Int32))] [(.int (1 : Int32))]) s₁ (entryFrame m #[(.int p1), (.int p2)] maxLocals) := fun t k => pre29 t (by
          show Steps p.tables e below (T26.setTop (mkF m 86 #[.val (.int p1), .val (.int p2), .val (.int i1), .val (.int j1), .val (.ref si), .val (.ref sj), .val (.int (rankF i1)), .val (.int (rankF j1)), .val (.int (0 : Int32))] [])) t
          refine XS.iconst X26.here hx rfl (hb hby at_86) ?_
          show Steps p.tables e below (T26.setTop (mkF m 87 #[.val (.int p1), .val (.int p2), .val (.int i1), .val (.int j1), .val (.ref si), .val (.ref sj), .val (.int (rankF i1)), .val (.int (rankF j1)), .val (.int (0 : Int32))] [(.int (1 : Int32))])) t
          refine XS.goto X26.here hx rfl (pc0 := 87) (pc' := 91) rfl (hb hby at_87) (by decide) (by decide) ?_
          exact k)
      have hnr : Value.int (nar .boolean (1 : Int32)) = (.int (1 : Int32)) := by rfl
      obtain ⟨fs, hr, hrun, hended, hW, hsame⟩ := X26.leave (v := some (.int (1 : Int32))) (fun h => by rw [Bd.returns] at h; cases h)
      refine ⟨_, _, pre30 _ (retN X26 hx (t := .boolean) Bd.returns (by simp) (hb hby at_91) (hnr ▸ hr)), hrun, hended, _, _, rfl, ?_, ⟨_, rfl⟩, hW, hsame.mono (by decide) (by decide)⟩
      show QL Z p1 p2 w0 w1 w2 w3 w4 w5 w6 w7 w8 h0 n0 _ T26.heap _
      rw [e26]
      exact ⟨rfl, N26⟩
    · have pre31 : Go p e below T12 (mkF m 50 #[.val (.int p1), .val (.int p2), .val (.int i1), .val (.int j1), .val (.ref si), .val (.ref sj), .val (.int (rankF i1)), .val (.int (rankF j1)), .unset] []) s₁ (entryFrame m #[(.int p1), (.int p2)] maxLocals) := fun t k => pre23 t (XS.ifNo X12.here hx rfl (hb hby at_47) rfl ((if0 _ _).trans (flt hc47).1) k)
      have pre32 : Go p e below T12 (mkF m 52 #[.val (.int p1), .val (.int p2), .val (.int i1), .val (.int j1), .val (.ref si), .val (.ref sj), .val (.int (rankF i1)), .val (.int (rankF j1)), .unset] [(.int (rankF j1))]) s₁ (entryFrame m #[(.int p1), (.int p2)] maxLocals) := fun t k => pre31 t (by
          show Steps p.tables e below (T12.setTop (mkF m 50 #[.val (.int p1), .val (.int p2), .val (.int i1), .val (.int j1), .val (.ref si), .val (.ref sj), .val (.int (rankF i1)), .val (.int (rankF j1)), .unset] [])) t
          refine XS.iload X12.here hx rfl (hb hby at_50) rfl ?_
          exact k)
      by_cases hc52 : (rankF j1) < (0 : Int32)
      · have pre33 : Go p e below T12 (mkF m 71 #[.val (.int p1), .val (.int p2), .val (.int i1), .val (.int j1), .val (.ref si), .val (.ref sj), .val (.int (rankF i1)), .val (.int (rankF j1)), .unset] []) s₁ (entryFrame m #[(.int p1), (.int p2)] maxLocals) := fun t k => pre32 t (XS.ifYes X12.here hx rfl (pc0 := 52) (pc' := 71) rfl (hb hby at_52) rfl ((if0 _ _).trans (tlt hc52).1) (by decide) (by decide) k)
        have pre34 : Go p e below T12 (mkF m 78 #[.val (.int p1), .val (.int p2), .val (.int i1), .val (.int j1), .val (.ref si), .val (.ref sj), .val (.int (rankF i1)), .val (.int (rankF j1)), .val (.int (0 : Int32))] [(.ref sj), (.ref si)]) s₁ (entryFrame m #[(.int p1), (.int p2)] maxLocals) := fun t k => pre33 t (by
            show Steps p.tables e below (T12.setTop (mkF m 71 #[.val (.int p1), .val (.int p2), .val (.int i1), .val (.int j1), .val (.ref si), .val (.ref sj), .val (.int (rankF i1)), .val (.int (rankF j1)), .unset] [])) t
            refine XS.iconst X12.here hx rfl (hb hby at_71) ?_
            show Steps p.tables e below (T12.setTop (mkF m 72 #[.val (.int p1), .val (.int p2), .val (.int i1), .val (.int j1), .val (.ref si), .val (.ref sj), .val (.int (rankF i1)), .val (.int (rankF j1)), .unset] [(.int (0 : Int32))])) t
            refine XS.istore X12.here hx rfl (hb hby at_72) rfl (l' := #[.val (.int p1), .val (.int p2), .val (.int i1), .val (.int j1), .val (.ref si), .val (.ref sj), .val (.int (rankF i1)), .val (.int (rankF j1)), .val (.int (0 : Int32))]) rfl ?_
            show Steps p.tables e below (T12.setTop (mkF m 74 #[.val (.int p1), .val (.int p2), .val (.int i1), .val (.int j1), .val (.ref si), .val (.ref sj), .val (.int (rankF i1)), .val (.int (rankF j1)), .val (.int (0 : Int32))] [])) t
            refine XS.aload X12.here hx rfl (hb hby at_74) rfl rfl ?_
            show Steps p.tables e below (T12.setTop (mkF m 76 #[.val (.int p1), .val (.int p2), .val (.int i1), .val (.int j1), .val (.ref si), .val (.ref sj), .val (.int (rankF i1)), .val (.int (rankF j1)), .val (.int (0 : Int32))] [(.ref si)])) t
            refine XS.aload X12.here hx rfl (hb hby at_76) rfl rfl ?_
            exact k)
        have Esi : Exa Z h0 si "com/example/whisker/whisker/PrimitiveType" := by
          rw [e_si]; rcases hi1 with rfl | rfl | rfl | rfl | rfl | rfl | rfl | rfl | rfl
          all_goals simp only [pickF]
          all_goals first | exact E0 | exact E1 | exact E2 | exact E3 | exact E4 | exact E5 | exact E6 | exact E7 | exact E8
        have hex : expF i1 j1 = 0 := by unfold expF; rw [if_neg hc42, if_neg hc47, if_pos hc52]
        obtain ⟨cq35, kq35, q35a, q35b, q35c⟩ := isOf hZ e12 Esi
        obtain ⟨_, _, ⟨T35, L35, k35, n35⟩, -, X35, ⟨Lc35, hQ35, l35, y35, z35⟩, st35⟩ := X12.virtualBack hx (y := (⟨"com/example/whisker/whisker/PrimitiveType", "widensTo", "(Lcom/example/whisker/whisker/PrimitiveType;)Z"⟩ : MethodName)) (z := (⟨"com/example/whisker/whisker/PrimitiveType", "widensTo", "(Lcom/example/whisker/whisker/PrimitiveType;)Z"⟩ : MethodName)) hown (mvT hZ (hw _ (List.mem_of_getElem? (i := 13) rfl))) (mvT hZ (hw _ (List.mem_of_getElem? (i := 14) rfl))) (notFace_of_selects (args := #[]) (mvT hZ (hw _ (List.mem_of_getElem? (i := 16) rfl)))) (mvT hZ (hw _ (List.mem_of_getElem? (i := 16) rfl))) (mvT hZ (hw _ (List.mem_of_getElem? (i := 15) rfl))) (by decide) (backOf (W := 0) (rmX l Z a0 hw [] si sj i1 j1 w0 w1 w2 w3 w4 w5 w6 w7 w8 0 h0 n0 Z0 S0 S1 S2 S3 S4 S5 S6 S7 S8 E0 E1 E2 E3 E4 E5 E6 E7 E8 F0 F1 F2 F3 F4 F5 F6 F7 F8 d1_0 d2_0 d2_1 d3_0 d3_1 d3_2 d4_0 d4_1 d4_2 d4_3 d5_0 d5_1 d5_2 d5_3 d5_4 d6_0 d6_1 d6_2 d6_3 d6_4 d6_5 d7_0 d7_1 d7_2 d7_3 d7_4 d7_5 d7_6 d8_0 d8_1 d8_2 d8_3 d8_4 d8_5 d8_6 d8_7 hi1 hj1 e_si e_sj hex) hZ (hw _ (List.mem_of_getElem? (i := 17) rfl)) (hw _ (List.mem_of_getElem? (i := 6) rfl)) (by decide) (by decide)) q35a q35c (g := (mkF m 78 #[.val (.int p1), .val (.int p2), .val (.int i1), .val (.int j1), .val (.ref si), .val (.ref sj), .val (.int (rankF i1)), .val (.int (rankF j1)), .val (.int (0 : Int32))] [(.ref sj), (.ref si)])) rfl (by rw [hml]; rfl) (Steps.refl _) (argsL := [(.ref sj)]) (rest := []) (lenOf pdL_2 rfl) rfl (by show 2 * 0 + _ ≤ _; exact Nat.le_of_eq rfl) (hb hby at_78) (fun _ _ => ⟨rfl, e12, (by decide : 0 + 0 ≤ _), (by decide : 0 + 0 ≤ _)⟩)
        dsimp only [Pt.U, Pt.locs, Pt.cells, Pt.slots] at X35 l35 y35 z35 st35 hQ35
        subst l35 y35 z35
        obtain ⟨rfl, N35q, hq35⟩ := hQ35
        have N35 := Fr.app N12 N35q
        have pre36 : Go p e below T35 (mkF m 81 #[.val (.int p1), .val (.int p2), .val (.int i1), .val (.int j1), .val (.ref si), .val (.ref sj), .val (.int (rankF i1)), .val (.int (rankF j1)), .val (.int (0 : Int32))] [(.int (0 : Int32))]) s₁ (entryFrame m #[(.int p1), (.int p2)] maxLocals) := fun t k => pre34 t (st35.trans k)
        have e35 : T35.heap = h0 := hq35
        have pre37 : Go p e below T35 (mkF m 83 #[.val (.int p1), .val (.int p2), .val (.int i1), .val (.int j1), .val (.ref si), .val (.ref sj), .val (.int (rankF i1)), .val (.int (rankF j1)), .val (.int (0 : Int32))] [(.int (0 : Int32)), (.int (0 : Int32))]) s₁ (entryFrame m #[(.int p1), (.int p2)] maxLocals) := fun t k => pre36 t (by
            show Steps p.tables e below (T35.setTop (mkF m 81 #[.val (.int p1), .val (.int p2), .val (.int i1), .val (.int j1), .val (.ref si), .val (.ref sj), .val (.int (rankF i1)), .val (.int (rankF j1)), .val (.int (0 : Int32))] [(.int (0 : Int32))])) t
            refine XS.iload X35.here hx rfl (hb hby at_81) rfl ?_
            exact k)
        have pre38 : Go p e below T35 (mkF m 86 #[.val (.int p1), .val (.int p2), .val (.int i1), .val (.int j1), .val (.ref si), .val (.ref sj), .val (.int (rankF i1)), .val (.int (rankF j1)), .val (.int (0 : Int32))] []) s₁ (entryFrame m #[(.int p1), (.int p2)] maxLocals) := fun t k => pre37 t (XS.icmpNo X35.here hx rfl (hb hby at_83) rfl (teq (by decide : (0 : Int32) = (0 : Int32))).2 k)
        have pre39 : Go p e below T35 (mkF m 91 #[.val (.int p1), .val (.int p2), .val (.int i1), .val (.int j1), .val (.ref si), .val (.ref sj), .val (.int (rankF i1)), .val (.int (rankF j1)), .val (.int (0 : Int32))] [(.int (1 : Int32))]) s₁ (entryFrame m #[(.int p1), (.int p2)] maxLocals) := fun t k => pre38 t (by
            show Steps p.tables e below (T35.setTop (mkF m 86 #[.val (.int p1), .val (.int p2), .val (.int i1), .val (.int j1), .val (.ref si), .val (.ref sj), .val (.int (rankF i1)), .val (.int (rankF j1)), .val (.int (0 : Int32))] [])) t
            refine XS.iconst X35.here hx rfl (hb hby at_86) ?_
            show Steps p.tables e below (T35.setTop (mkF m 87 #[.val (.int p1), .val (.int p2), .val (.int i1), .val (.int j1), .val (.ref si), .val (.ref sj), .val (.int (rankF i1)), .val (.int (rankF j1)), .val (.int (0 : Int32))] [(.int (1 : Int32))])) t
            refine XS.goto X35.here hx rfl (pc0 := 87) (pc' := 91) rfl (hb hby at_87) (by decide) (by decide) ?_
            exact k)
        have hnr : Value.int (nar .boolean (1 : Int32)) = (.int (1 : Int32)) := by rfl
        obtain ⟨fs, hr, hrun, hended, hW, hsame⟩ := X35.leave (v := some (.int (1 : Int32))) (fun h => by rw [Bd.returns] at h; cases h)
        refine ⟨_, _, pre39 _ (retN X35 hx (t := .boolean) Bd.returns (by simp) (hb hby at_91) (hnr ▸ hr)), hrun, hended, _, _, rfl, ?_, ⟨_, rfl⟩, hW, hsame.mono (by decide) (by decide)⟩
        show QL Z p1 p2 w0 w1 w2 w3 w4 w5 w6 w7 w8 h0 n0 _ T35.heap _
        rw [e35]
        exact ⟨rfl, N35⟩
      · have pre40 : Go p e below T12 (mkF m 55 #[.val (.int p1), .val (.int p2), .val (.int i1), .val (.int j1), .val (.ref si), .val (.ref sj), .val (.int (rankF i1)), .val (.int (rankF j1)), .unset] []) s₁ (entryFrame m #[(.int p1), (.int p2)] maxLocals) := fun t k => pre32 t (XS.ifNo X12.here hx rfl (hb hby at_52) rfl ((if0 _ _).trans (flt hc52).1) k)
        have pre41 : Go p e below T12 (mkF m 57 #[.val (.int p1), .val (.int p2), .val (.int i1), .val (.int j1), .val (.ref si), .val (.ref sj), .val (.int (rankF i1)), .val (.int (rankF j1)), .unset] [(.int (3 : Int32)), (.int j1)]) s₁ (entryFrame m #[(.int p1), (.int p2)] maxLocals) := fun t k => pre40 t (by
            show Steps p.tables e below (T12.setTop (mkF m 55 #[.val (.int p1), .val (.int p2), .val (.int i1), .val (.int j1), .val (.ref si), .val (.ref sj), .val (.int (rankF i1)), .val (.int (rankF j1)), .unset] [])) t
            refine XS.iloadN X12.here hx rfl (hb hby at_55) rfl ?_
            show Steps p.tables e below (T12.setTop (mkF m 56 #[.val (.int p1), .val (.int p2), .val (.int i1), .val (.int j1), .val (.ref si), .val (.ref sj), .val (.int (rankF i1)), .val (.int (rankF j1)), .unset] [(.int j1)])) t
            refine XS.iconst X12.here hx rfl (hb hby at_56) ?_
            exact k)
        by_cases hc57 : j1 = (3 : Int32)
        · have pre42 : Go p e below T12 (mkF m 71 #[.val (.int p1), .val (.int p2), .val (.int i1), .val (.int j1), .val (.ref si), .val (.ref sj), .val (.int (rankF i1)), .val (.int (rankF j1)), .unset] []) s₁ (entryFrame m #[(.int p1), (.int p2)] maxLocals) := fun t k => pre41 t (XS.icmpYes X12.here hx rfl (pc0 := 57) (pc' := 71) rfl (hb hby at_57) rfl (teq hc57).1 (by decide) (by decide) k)
          have pre43 : Go p e below T12 (mkF m 78 #[.val (.int p1), .val (.int p2), .val (.int i1), .val (.int j1), .val (.ref si), .val (.ref sj), .val (.int (rankF i1)), .val (.int (rankF j1)), .val (.int (0 : Int32))] [(.ref sj), (.ref si)]) s₁ (entryFrame m #[(.int p1), (.int p2)] maxLocals) := fun t k => pre42 t (by
              show Steps p.tables e below (T12.setTop (mkF m 71 #[.val (.int p1), .val (.int p2), .val (.int i1), .val (.int j1), .val (.ref si), .val (.ref sj), .val (.int (rankF i1)), .val (.int (rankF j1)), .unset] [])) t
              refine XS.iconst X12.here hx rfl (hb hby at_71) ?_
              show Steps p.tables e below (T12.setTop (mkF m 72 #[.val (.int p1), .val (.int p2), .val (.int i1), .val (.int j1), .val (.ref si), .val (.ref sj), .val (.int (rankF i1)), .val (.int (rankF j1)), .unset] [(.int (0 : Int32))])) t
              refine XS.istore X12.here hx rfl (hb hby at_72) rfl (l' := #[.val (.int p1), .val (.int p2), .val (.int i1), .val (.int j1), .val (.ref si), .val (.ref sj), .val (.int (rankF i1)), .val (.int (rankF j1)), .val (.int (0 : Int32))]) rfl ?_
              show Steps p.tables e below (T12.setTop (mkF m 74 #[.val (.int p1), .val (.int p2), .val (.int i1), .val (.int j1), .val (.ref si), .val (.ref sj), .val (.int (rankF i1)), .val (.int (rankF j1)), .val (.int (0 : Int32))] [])) t
              refine XS.aload X12.here hx rfl (hb hby at_74) rfl rfl ?_
              show Steps p.tables e below (T12.setTop (mkF m 76 #[.val (.int p1), .val (.int p2), .val (.int i1), .val (.int j1), .val (.ref si), .val (.ref sj), .val (.int (rankF i1)), .val (.int (rankF j1)), .val (.int (0 : Int32))] [(.ref si)])) t
              refine XS.aload X12.here hx rfl (hb hby at_76) rfl rfl ?_
              exact k)
          have Esi : Exa Z h0 si "com/example/whisker/whisker/PrimitiveType" := by
            rw [e_si]; rcases hi1 with rfl | rfl | rfl | rfl | rfl | rfl | rfl | rfl | rfl
            all_goals simp only [pickF]
            all_goals first | exact E0 | exact E1 | exact E2 | exact E3 | exact E4 | exact E5 | exact E6 | exact E7 | exact E8
          have hex : expF i1 j1 = 0 := by unfold expF; rw [if_neg hc42, if_neg hc47, if_neg hc52, if_pos hc57]
          obtain ⟨cq44, kq44, q44a, q44b, q44c⟩ := isOf hZ e12 Esi
          obtain ⟨_, _, ⟨T44, L44, k44, n44⟩, -, X44, ⟨Lc44, hQ44, l44, y44, z44⟩, st44⟩ := X12.virtualBack hx (y := (⟨"com/example/whisker/whisker/PrimitiveType", "widensTo", "(Lcom/example/whisker/whisker/PrimitiveType;)Z"⟩ : MethodName)) (z := (⟨"com/example/whisker/whisker/PrimitiveType", "widensTo", "(Lcom/example/whisker/whisker/PrimitiveType;)Z"⟩ : MethodName)) hown (mvT hZ (hw _ (List.mem_of_getElem? (i := 13) rfl))) (mvT hZ (hw _ (List.mem_of_getElem? (i := 14) rfl))) (notFace_of_selects (args := #[]) (mvT hZ (hw _ (List.mem_of_getElem? (i := 16) rfl)))) (mvT hZ (hw _ (List.mem_of_getElem? (i := 16) rfl))) (mvT hZ (hw _ (List.mem_of_getElem? (i := 15) rfl))) (by decide) (backOf (W := 0) (rmX l Z a0 hw [] si sj i1 j1 w0 w1 w2 w3 w4 w5 w6 w7 w8 0 h0 n0 Z0 S0 S1 S2 S3 S4 S5 S6 S7 S8 E0 E1 E2 E3 E4 E5 E6 E7 E8 F0 F1 F2 F3 F4 F5 F6 F7 F8 d1_0 d2_0 d2_1 d3_0 d3_1 d3_2 d4_0 d4_1 d4_2 d4_3 d5_0 d5_1 d5_2 d5_3 d5_4 d6_0 d6_1 d6_2 d6_3 d6_4 d6_5 d7_0 d7_1 d7_2 d7_3 d7_4 d7_5 d7_6 d8_0 d8_1 d8_2 d8_3 d8_4 d8_5 d8_6 d8_7 hi1 hj1 e_si e_sj hex) hZ (hw _ (List.mem_of_getElem? (i := 17) rfl)) (hw _ (List.mem_of_getElem? (i := 6) rfl)) (by decide) (by decide)) q44a q44c (g := (mkF m 78 #[.val (.int p1), .val (.int p2), .val (.int i1), .val (.int j1), .val (.ref si), .val (.ref sj), .val (.int (rankF i1)), .val (.int (rankF j1)), .val (.int (0 : Int32))] [(.ref sj), (.ref si)])) rfl (by rw [hml]; rfl) (Steps.refl _) (argsL := [(.ref sj)]) (rest := []) (lenOf pdL_2 rfl) rfl (by show 2 * 0 + _ ≤ _; exact Nat.le_of_eq rfl) (hb hby at_78) (fun _ _ => ⟨rfl, e12, (by decide : 0 + 0 ≤ _), (by decide : 0 + 0 ≤ _)⟩)
          dsimp only [Pt.U, Pt.locs, Pt.cells, Pt.slots] at X44 l44 y44 z44 st44 hQ44
          subst l44 y44 z44
          obtain ⟨rfl, N44q, hq44⟩ := hQ44
          have N44 := Fr.app N12 N44q
          have pre45 : Go p e below T44 (mkF m 81 #[.val (.int p1), .val (.int p2), .val (.int i1), .val (.int j1), .val (.ref si), .val (.ref sj), .val (.int (rankF i1)), .val (.int (rankF j1)), .val (.int (0 : Int32))] [(.int (0 : Int32))]) s₁ (entryFrame m #[(.int p1), (.int p2)] maxLocals) := fun t k => pre43 t (st44.trans k)
          have e44 : T44.heap = h0 := hq44
          have pre46 : Go p e below T44 (mkF m 83 #[.val (.int p1), .val (.int p2), .val (.int i1), .val (.int j1), .val (.ref si), .val (.ref sj), .val (.int (rankF i1)), .val (.int (rankF j1)), .val (.int (0 : Int32))] [(.int (0 : Int32)), (.int (0 : Int32))]) s₁ (entryFrame m #[(.int p1), (.int p2)] maxLocals) := fun t k => pre45 t (by
              show Steps p.tables e below (T44.setTop (mkF m 81 #[.val (.int p1), .val (.int p2), .val (.int i1), .val (.int j1), .val (.ref si), .val (.ref sj), .val (.int (rankF i1)), .val (.int (rankF j1)), .val (.int (0 : Int32))] [(.int (0 : Int32))])) t
              refine XS.iload X44.here hx rfl (hb hby at_81) rfl ?_
              exact k)
          have pre47 : Go p e below T44 (mkF m 86 #[.val (.int p1), .val (.int p2), .val (.int i1), .val (.int j1), .val (.ref si), .val (.ref sj), .val (.int (rankF i1)), .val (.int (rankF j1)), .val (.int (0 : Int32))] []) s₁ (entryFrame m #[(.int p1), (.int p2)] maxLocals) := fun t k => pre46 t (XS.icmpNo X44.here hx rfl (hb hby at_83) rfl (teq (by decide : (0 : Int32) = (0 : Int32))).2 k)
          have pre48 : Go p e below T44 (mkF m 91 #[.val (.int p1), .val (.int p2), .val (.int i1), .val (.int j1), .val (.ref si), .val (.ref sj), .val (.int (rankF i1)), .val (.int (rankF j1)), .val (.int (0 : Int32))] [(.int (1 : Int32))]) s₁ (entryFrame m #[(.int p1), (.int p2)] maxLocals) := fun t k => pre47 t (by
              show Steps p.tables e below (T44.setTop (mkF m 86 #[.val (.int p1), .val (.int p2), .val (.int i1), .val (.int j1), .val (.ref si), .val (.ref sj), .val (.int (rankF i1)), .val (.int (rankF j1)), .val (.int (0 : Int32))] [])) t
              refine XS.iconst X44.here hx rfl (hb hby at_86) ?_
              show Steps p.tables e below (T44.setTop (mkF m 87 #[.val (.int p1), .val (.int p2), .val (.int i1), .val (.int j1), .val (.ref si), .val (.ref sj), .val (.int (rankF i1)), .val (.int (rankF j1)), .val (.int (0 : Int32))] [(.int (1 : Int32))])) t
              refine XS.goto X44.here hx rfl (pc0 := 87) (pc' := 91) rfl (hb hby at_87) (by decide) (by decide) ?_
              exact k)
          have hnr : Value.int (nar .boolean (1 : Int32)) = (.int (1 : Int32)) := by rfl
          obtain ⟨fs, hr, hrun, hended, hW, hsame⟩ := X44.leave (v := some (.int (1 : Int32))) (fun h => by rw [Bd.returns] at h; cases h)
          refine ⟨_, _, pre48 _ (retN X44 hx (t := .boolean) Bd.returns (by simp) (hb hby at_91) (hnr ▸ hr)), hrun, hended, _, _, rfl, ?_, ⟨_, rfl⟩, hW, hsame.mono (by decide) (by decide)⟩
          show QL Z p1 p2 w0 w1 w2 w3 w4 w5 w6 w7 w8 h0 n0 _ T44.heap _
          rw [e44]
          exact ⟨rfl, N44⟩
        · have pre49 : Go p e below T12 (mkF m 60 #[.val (.int p1), .val (.int p2), .val (.int i1), .val (.int j1), .val (.ref si), .val (.ref sj), .val (.int (rankF i1)), .val (.int (rankF j1)), .unset] []) s₁ (entryFrame m #[(.int p1), (.int p2)] maxLocals) := fun t k => pre41 t (XS.icmpNo X12.here hx rfl (hb hby at_57) rfl (feq hc57).1 k)
          have pre50 : Go p e below T12 (mkF m 64 #[.val (.int p1), .val (.int p2), .val (.int i1), .val (.int j1), .val (.ref si), .val (.ref sj), .val (.int (rankF i1)), .val (.int (rankF j1)), .unset] [(.int (rankF j1)), (.int (rankF i1))]) s₁ (entryFrame m #[(.int p1), (.int p2)] maxLocals) := fun t k => pre49 t (by
              show Steps p.tables e below (T12.setTop (mkF m 60 #[.val (.int p1), .val (.int p2), .val (.int i1), .val (.int j1), .val (.ref si), .val (.ref sj), .val (.int (rankF i1)), .val (.int (rankF j1)), .unset] [])) t
              refine XS.iload X12.here hx rfl (hb hby at_60) rfl ?_
              show Steps p.tables e below (T12.setTop (mkF m 62 #[.val (.int p1), .val (.int p2), .val (.int i1), .val (.int j1), .val (.ref si), .val (.ref sj), .val (.int (rankF i1)), .val (.int (rankF j1)), .unset] [(.int (rankF i1))])) t
              refine XS.iload X12.here hx rfl (hb hby at_62) rfl ?_
              exact k)
          by_cases hc64 : (rankF i1) < (rankF j1)
          · have pre51 : Go p e below T12 (mkF m 67 #[.val (.int p1), .val (.int p2), .val (.int i1), .val (.int j1), .val (.ref si), .val (.ref sj), .val (.int (rankF i1)), .val (.int (rankF j1)), .unset] []) s₁ (entryFrame m #[(.int p1), (.int p2)] maxLocals) := fun t k => pre50 t (XS.icmpNo X12.here hx rfl (hb hby at_64) rfl (tlt hc64).2.1 k)
            have pre52 : Go p e below T12 (mkF m 78 #[.val (.int p1), .val (.int p2), .val (.int i1), .val (.int j1), .val (.ref si), .val (.ref sj), .val (.int (rankF i1)), .val (.int (rankF j1)), .val (.int (1 : Int32))] [(.ref sj), (.ref si)]) s₁ (entryFrame m #[(.int p1), (.int p2)] maxLocals) := fun t k => pre51 t (by
                show Steps p.tables e below (T12.setTop (mkF m 67 #[.val (.int p1), .val (.int p2), .val (.int i1), .val (.int j1), .val (.ref si), .val (.ref sj), .val (.int (rankF i1)), .val (.int (rankF j1)), .unset] [])) t
                refine XS.iconst X12.here hx rfl (hb hby at_67) ?_
                show Steps p.tables e below (T12.setTop (mkF m 68 #[.val (.int p1), .val (.int p2), .val (.int i1), .val (.int j1), .val (.ref si), .val (.ref sj), .val (.int (rankF i1)), .val (.int (rankF j1)), .unset] [(.int (1 : Int32))])) t
                refine XS.goto X12.here hx rfl (pc0 := 68) (pc' := 72) rfl (hb hby at_68) (by decide) (by decide) ?_
                show Steps p.tables e below (T12.setTop (mkF m 72 #[.val (.int p1), .val (.int p2), .val (.int i1), .val (.int j1), .val (.ref si), .val (.ref sj), .val (.int (rankF i1)), .val (.int (rankF j1)), .unset] [(.int (1 : Int32))])) t
                refine XS.istore X12.here hx rfl (hb hby at_72) rfl (l' := #[.val (.int p1), .val (.int p2), .val (.int i1), .val (.int j1), .val (.ref si), .val (.ref sj), .val (.int (rankF i1)), .val (.int (rankF j1)), .val (.int (1 : Int32))]) rfl ?_
                show Steps p.tables e below (T12.setTop (mkF m 74 #[.val (.int p1), .val (.int p2), .val (.int i1), .val (.int j1), .val (.ref si), .val (.ref sj), .val (.int (rankF i1)), .val (.int (rankF j1)), .val (.int (1 : Int32))] [])) t
                refine XS.aload X12.here hx rfl (hb hby at_74) rfl rfl ?_
                show Steps p.tables e below (T12.setTop (mkF m 76 #[.val (.int p1), .val (.int p2), .val (.int i1), .val (.int j1), .val (.ref si), .val (.ref sj), .val (.int (rankF i1)), .val (.int (rankF j1)), .val (.int (1 : Int32))] [(.ref si)])) t
                refine XS.aload X12.here hx rfl (hb hby at_76) rfl rfl ?_
                exact k)
            have Esi : Exa Z h0 si "com/example/whisker/whisker/PrimitiveType" := by
              rw [e_si]; rcases hi1 with rfl | rfl | rfl | rfl | rfl | rfl | rfl | rfl | rfl
              all_goals simp only [pickF]
              all_goals first | exact E0 | exact E1 | exact E2 | exact E3 | exact E4 | exact E5 | exact E6 | exact E7 | exact E8
            have hex : expF i1 j1 = 1 := by unfold expF; rw [if_neg hc42, if_neg hc47, if_neg hc52, if_neg hc57, if_pos hc64]
            obtain ⟨cq53, kq53, q53a, q53b, q53c⟩ := isOf hZ e12 Esi
            obtain ⟨_, _, ⟨T53, L53, k53, n53⟩, -, X53, ⟨Lc53, hQ53, l53, y53, z53⟩, st53⟩ := X12.virtualBack hx (y := (⟨"com/example/whisker/whisker/PrimitiveType", "widensTo", "(Lcom/example/whisker/whisker/PrimitiveType;)Z"⟩ : MethodName)) (z := (⟨"com/example/whisker/whisker/PrimitiveType", "widensTo", "(Lcom/example/whisker/whisker/PrimitiveType;)Z"⟩ : MethodName)) hown (mvT hZ (hw _ (List.mem_of_getElem? (i := 13) rfl))) (mvT hZ (hw _ (List.mem_of_getElem? (i := 14) rfl))) (notFace_of_selects (args := #[]) (mvT hZ (hw _ (List.mem_of_getElem? (i := 16) rfl)))) (mvT hZ (hw _ (List.mem_of_getElem? (i := 16) rfl))) (mvT hZ (hw _ (List.mem_of_getElem? (i := 15) rfl))) (by decide) (backOf (W := 0) (rmX l Z a0 hw [] si sj i1 j1 w0 w1 w2 w3 w4 w5 w6 w7 w8 1 h0 n0 Z0 S0 S1 S2 S3 S4 S5 S6 S7 S8 E0 E1 E2 E3 E4 E5 E6 E7 E8 F0 F1 F2 F3 F4 F5 F6 F7 F8 d1_0 d2_0 d2_1 d3_0 d3_1 d3_2 d4_0 d4_1 d4_2 d4_3 d5_0 d5_1 d5_2 d5_3 d5_4 d6_0 d6_1 d6_2 d6_3 d6_4 d6_5 d7_0 d7_1 d7_2 d7_3 d7_4 d7_5 d7_6 d8_0 d8_1 d8_2 d8_3 d8_4 d8_5 d8_6 d8_7 hi1 hj1 e_si e_sj hex) hZ (hw _ (List.mem_of_getElem? (i := 17) rfl)) (hw _ (List.mem_of_getElem? (i := 6) rfl)) (by decide) (by decide)) q53a q53c (g := (mkF m 78 #[.val (.int p1), .val (.int p2), .val (.int i1), .val (.int j1), .val (.ref si), .val (.ref sj), .val (.int (rankF i1)), .val (.int (rankF j1)), .val (.int (1 : Int32))] [(.ref sj), (.ref si)])) rfl (by rw [hml]; rfl) (Steps.refl _) (argsL := [(.ref sj)]) (rest := []) (lenOf pdL_2 rfl) rfl (by show 2 * 0 + _ ≤ _; exact Nat.le_of_eq rfl) (hb hby at_78) (fun _ _ => ⟨rfl, e12, (by decide : 0 + 0 ≤ _), (by decide : 0 + 0 ≤ _)⟩)
            dsimp only [Pt.U, Pt.locs, Pt.cells, Pt.slots] at X53 l53 y53 z53 st53 hQ53
            subst l53 y53 z53
            obtain ⟨rfl, N53q, hq53⟩ := hQ53
            have N53 := Fr.app N12 N53q
            have pre54 : Go p e below T53 (mkF m 81 #[.val (.int p1), .val (.int p2), .val (.int i1), .val (.int j1), .val (.ref si), .val (.ref sj), .val (.int (rankF i1)), .val (.int (rankF j1)), .val (.int (1 : Int32))] [(.int (1 : Int32))]) s₁ (entryFrame m #[(.int p1), (.int p2)] maxLocals) := fun t k => pre52 t (st53.trans k)
            have e53 : T53.heap = h0 := hq53
            have pre55 : Go p e below T53 (mkF m 83 #[.val (.int p1), .val (.int p2), .val (.int i1), .val (.int j1), .val (.ref si), .val (.ref sj), .val (.int (rankF i1)), .val (.int (rankF j1)), .val (.int (1 : Int32))] [(.int (1 : Int32)), (.int (1 : Int32))]) s₁ (entryFrame m #[(.int p1), (.int p2)] maxLocals) := fun t k => pre54 t (by
                show Steps p.tables e below (T53.setTop (mkF m 81 #[.val (.int p1), .val (.int p2), .val (.int i1), .val (.int j1), .val (.ref si), .val (.ref sj), .val (.int (rankF i1)), .val (.int (rankF j1)), .val (.int (1 : Int32))] [(.int (1 : Int32))])) t
                refine XS.iload X53.here hx rfl (hb hby at_81) rfl ?_
                exact k)
            have pre56 : Go p e below T53 (mkF m 86 #[.val (.int p1), .val (.int p2), .val (.int i1), .val (.int j1), .val (.ref si), .val (.ref sj), .val (.int (rankF i1)), .val (.int (rankF j1)), .val (.int (1 : Int32))] []) s₁ (entryFrame m #[(.int p1), (.int p2)] maxLocals) := fun t k => pre55 t (XS.icmpNo X53.here hx rfl (hb hby at_83) rfl (teq (by decide : (1 : Int32) = (1 : Int32))).2 k)
            have pre57 : Go p e below T53 (mkF m 91 #[.val (.int p1), .val (.int p2), .val (.int i1), .val (.int j1), .val (.ref si), .val (.ref sj), .val (.int (rankF i1)), .val (.int (rankF j1)), .val (.int (1 : Int32))] [(.int (1 : Int32))]) s₁ (entryFrame m #[(.int p1), (.int p2)] maxLocals) := fun t k => pre56 t (by
                show Steps p.tables e below (T53.setTop (mkF m 86 #[.val (.int p1), .val (.int p2), .val (.int i1), .val (.int j1), .val (.ref si), .val (.ref sj), .val (.int (rankF i1)), .val (.int (rankF j1)), .val (.int (1 : Int32))] [])) t
                refine XS.iconst X53.here hx rfl (hb hby at_86) ?_
                show Steps p.tables e below (T53.setTop (mkF m 87 #[.val (.int p1), .val (.int p2), .val (.int i1), .val (.int j1), .val (.ref si), .val (.ref sj), .val (.int (rankF i1)), .val (.int (rankF j1)), .val (.int (1 : Int32))] [(.int (1 : Int32))])) t
                refine XS.goto X53.here hx rfl (pc0 := 87) (pc' := 91) rfl (hb hby at_87) (by decide) (by decide) ?_
                exact k)
            have hnr : Value.int (nar .boolean (1 : Int32)) = (.int (1 : Int32)) := by rfl
            obtain ⟨fs, hr, hrun, hended, hW, hsame⟩ := X53.leave (v := some (.int (1 : Int32))) (fun h => by rw [Bd.returns] at h; cases h)
            refine ⟨_, _, pre57 _ (retN X53 hx (t := .boolean) Bd.returns (by simp) (hb hby at_91) (hnr ▸ hr)), hrun, hended, _, _, rfl, ?_, ⟨_, rfl⟩, hW, hsame.mono (by decide) (by decide)⟩
            show QL Z p1 p2 w0 w1 w2 w3 w4 w5 w6 w7 w8 h0 n0 _ T53.heap _
            rw [e53]
            exact ⟨rfl, N53⟩
          · have pre58 : Go p e below T12 (mkF m 71 #[.val (.int p1), .val (.int p2), .val (.int i1), .val (.int j1), .val (.ref si), .val (.ref sj), .val (.int (rankF i1)), .val (.int (rankF j1)), .unset] []) s₁ (entryFrame m #[(.int p1), (.int p2)] maxLocals) := fun t k => pre50 t (XS.icmpYes X12.here hx rfl (pc0 := 64) (pc' := 71) rfl (hb hby at_64) rfl (flt hc64).2.1 (by decide) (by decide) k)
            have pre59 : Go p e below T12 (mkF m 78 #[.val (.int p1), .val (.int p2), .val (.int i1), .val (.int j1), .val (.ref si), .val (.ref sj), .val (.int (rankF i1)), .val (.int (rankF j1)), .val (.int (0 : Int32))] [(.ref sj), (.ref si)]) s₁ (entryFrame m #[(.int p1), (.int p2)] maxLocals) := fun t k => pre58 t (by
                show Steps p.tables e below (T12.setTop (mkF m 71 #[.val (.int p1), .val (.int p2), .val (.int i1), .val (.int j1), .val (.ref si), .val (.ref sj), .val (.int (rankF i1)), .val (.int (rankF j1)), .unset] [])) t
                refine XS.iconst X12.here hx rfl (hb hby at_71) ?_
                show Steps p.tables e below (T12.setTop (mkF m 72 #[.val (.int p1), .val (.int p2), .val (.int i1), .val (.int j1), .val (.ref si), .val (.ref sj), .val (.int (rankF i1)), .val (.int (rankF j1)), .unset] [(.int (0 : Int32))])) t
                refine XS.istore X12.here hx rfl (hb hby at_72) rfl (l' := #[.val (.int p1), .val (.int p2), .val (.int i1), .val (.int j1), .val (.ref si), .val (.ref sj), .val (.int (rankF i1)), .val (.int (rankF j1)), .val (.int (0 : Int32))]) rfl ?_
                show Steps p.tables e below (T12.setTop (mkF m 74 #[.val (.int p1), .val (.int p2), .val (.int i1), .val (.int j1), .val (.ref si), .val (.ref sj), .val (.int (rankF i1)), .val (.int (rankF j1)), .val (.int (0 : Int32))] [])) t
                refine XS.aload X12.here hx rfl (hb hby at_74) rfl rfl ?_
                show Steps p.tables e below (T12.setTop (mkF m 76 #[.val (.int p1), .val (.int p2), .val (.int i1), .val (.int j1), .val (.ref si), .val (.ref sj), .val (.int (rankF i1)), .val (.int (rankF j1)), .val (.int (0 : Int32))] [(.ref si)])) t
                refine XS.aload X12.here hx rfl (hb hby at_76) rfl rfl ?_
                exact k)
            have Esi : Exa Z h0 si "com/example/whisker/whisker/PrimitiveType" := by
              rw [e_si]; rcases hi1 with rfl | rfl | rfl | rfl | rfl | rfl | rfl | rfl | rfl
              all_goals simp only [pickF]
              all_goals first | exact E0 | exact E1 | exact E2 | exact E3 | exact E4 | exact E5 | exact E6 | exact E7 | exact E8
            have hex : expF i1 j1 = 0 := by unfold expF; rw [if_neg hc42, if_neg hc47, if_neg hc52, if_neg hc57, if_neg hc64]
            obtain ⟨cq60, kq60, q60a, q60b, q60c⟩ := isOf hZ e12 Esi
            obtain ⟨_, _, ⟨T60, L60, k60, n60⟩, -, X60, ⟨Lc60, hQ60, l60, y60, z60⟩, st60⟩ := X12.virtualBack hx (y := (⟨"com/example/whisker/whisker/PrimitiveType", "widensTo", "(Lcom/example/whisker/whisker/PrimitiveType;)Z"⟩ : MethodName)) (z := (⟨"com/example/whisker/whisker/PrimitiveType", "widensTo", "(Lcom/example/whisker/whisker/PrimitiveType;)Z"⟩ : MethodName)) hown (mvT hZ (hw _ (List.mem_of_getElem? (i := 13) rfl))) (mvT hZ (hw _ (List.mem_of_getElem? (i := 14) rfl))) (notFace_of_selects (args := #[]) (mvT hZ (hw _ (List.mem_of_getElem? (i := 16) rfl)))) (mvT hZ (hw _ (List.mem_of_getElem? (i := 16) rfl))) (mvT hZ (hw _ (List.mem_of_getElem? (i := 15) rfl))) (by decide) (backOf (W := 0) (rmX l Z a0 hw [] si sj i1 j1 w0 w1 w2 w3 w4 w5 w6 w7 w8 0 h0 n0 Z0 S0 S1 S2 S3 S4 S5 S6 S7 S8 E0 E1 E2 E3 E4 E5 E6 E7 E8 F0 F1 F2 F3 F4 F5 F6 F7 F8 d1_0 d2_0 d2_1 d3_0 d3_1 d3_2 d4_0 d4_1 d4_2 d4_3 d5_0 d5_1 d5_2 d5_3 d5_4 d6_0 d6_1 d6_2 d6_3 d6_4 d6_5 d7_0 d7_1 d7_2 d7_3 d7_4 d7_5 d7_6 d8_0 d8_1 d8_2 d8_3 d8_4 d8_5 d8_6 d8_7 hi1 hj1 e_si e_sj hex) hZ (hw _ (List.mem_of_getElem? (i := 17) rfl)) (hw _ (List.mem_of_getElem? (i := 6) rfl)) (by decide) (by decide)) q60a q60c (g := (mkF m 78 #[.val (.int p1), .val (.int p2), .val (.int i1), .val (.int j1), .val (.ref si), .val (.ref sj), .val (.int (rankF i1)), .val (.int (rankF j1)), .val (.int (0 : Int32))] [(.ref sj), (.ref si)])) rfl (by rw [hml]; rfl) (Steps.refl _) (argsL := [(.ref sj)]) (rest := []) (lenOf pdL_2 rfl) rfl (by show 2 * 0 + _ ≤ _; exact Nat.le_of_eq rfl) (hb hby at_78) (fun _ _ => ⟨rfl, e12, (by decide : 0 + 0 ≤ _), (by decide : 0 + 0 ≤ _)⟩)
            dsimp only [Pt.U, Pt.locs, Pt.cells, Pt.slots] at X60 l60 y60 z60 st60 hQ60
            subst l60 y60 z60
            obtain ⟨rfl, N60q, hq60⟩ := hQ60
            have N60 := Fr.app N12 N60q
            have pre61 : Go p e below T60 (mkF m 81 #[.val (.int p1), .val (.int p2), .val (.int i1), .val (.int j1), .val (.ref si), .val (.ref sj), .val (.int (rankF i1)), .val (.int (rankF j1)), .val (.int (0 : Int32))] [(.int (0 : Int32))]) s₁ (entryFrame m #[(.int p1), (.int p2)] maxLocals) := fun t k => pre59 t (st60.trans k)
            have e60 : T60.heap = h0 := hq60
            have pre62 : Go p e below T60 (mkF m 83 #[.val (.int p1), .val (.int p2), .val (.int i1), .val (.int j1), .val (.ref si), .val (.ref sj), .val (.int (rankF i1)), .val (.int (rankF j1)), .val (.int (0 : Int32))] [(.int (0 : Int32)), (.int (0 : Int32))]) s₁ (entryFrame m #[(.int p1), (.int p2)] maxLocals) := fun t k => pre61 t (by
                show Steps p.tables e below (T60.setTop (mkF m 81 #[.val (.int p1), .val (.int p2), .val (.int i1), .val (.int j1), .val (.ref si), .val (.ref sj), .val (.int (rankF i1)), .val (.int (rankF j1)), .val (.int (0 : Int32))] [(.int (0 : Int32))])) t
                refine XS.iload X60.here hx rfl (hb hby at_81) rfl ?_
                exact k)
            have pre63 : Go p e below T60 (mkF m 86 #[.val (.int p1), .val (.int p2), .val (.int i1), .val (.int j1), .val (.ref si), .val (.ref sj), .val (.int (rankF i1)), .val (.int (rankF j1)), .val (.int (0 : Int32))] []) s₁ (entryFrame m #[(.int p1), (.int p2)] maxLocals) := fun t k => pre62 t (XS.icmpNo X60.here hx rfl (hb hby at_83) rfl (teq (by decide : (0 : Int32) = (0 : Int32))).2 k)
            have pre64 : Go p e below T60 (mkF m 91 #[.val (.int p1), .val (.int p2), .val (.int i1), .val (.int j1), .val (.ref si), .val (.ref sj), .val (.int (rankF i1)), .val (.int (rankF j1)), .val (.int (0 : Int32))] [(.int (1 : Int32))]) s₁ (entryFrame m #[(.int p1), (.int p2)] maxLocals) := fun t k => pre63 t (by
                show Steps p.tables e below (T60.setTop (mkF m 86 #[.val (.int p1), .val (.int p2), .val (.int i1), .val (.int j1), .val (.ref si), .val (.ref sj), .val (.int (rankF i1)), .val (.int (rankF j1)), .val (.int (0 : Int32))] [])) t
                refine XS.iconst X60.here hx rfl (hb hby at_86) ?_
                show Steps p.tables e below (T60.setTop (mkF m 87 #[.val (.int p1), .val (.int p2), .val (.int i1), .val (.int j1), .val (.ref si), .val (.ref sj), .val (.int (rankF i1)), .val (.int (rankF j1)), .val (.int (0 : Int32))] [(.int (1 : Int32))])) t
                refine XS.goto X60.here hx rfl (pc0 := 87) (pc' := 91) rfl (hb hby at_87) (by decide) (by decide) ?_
                exact k)
            have hnr : Value.int (nar .boolean (1 : Int32)) = (.int (1 : Int32)) := by rfl
            obtain ⟨fs, hr, hrun, hended, hW, hsame⟩ := X60.leave (v := some (.int (1 : Int32))) (fun h => by rw [Bd.returns] at h; cases h)
            refine ⟨_, _, pre64 _ (retN X60 hx (t := .boolean) Bd.returns (by simp) (hb hby at_91) (hnr ▸ hr)), hrun, hended, _, _, rfl, ?_, ⟨_, rfl⟩, hW, hsame.mono (by decide) (by decide)⟩
            show QL Z p1 p2 w0 w1 w2 w3 w4 w5 w6 w7 w8 h0 n0 _ T60.heap _
            rw [e60]
            exact ⟨rfl, N60⟩
set_option maxRecDepth 65536 in
set_option maxHeartbeats 40000000 in
theorem comes_1 {Post : Tables → Env → Array Value → State → Outcome → State → Prop} (hpost : ∀ tb e args s v u, (limb_1_1.after args s (.returned v) u = true ∧ limb_1_2.after args s (.returned v) u = true ∧ True) → FrameEnd s (.returned v) u (Jvm.fieldLocs frame_1_writes args s ++ Jvm.arrayLocs frame_1_arrays args s ++ Jvm.staticLocs frame_1_statics s) 0 0 → Post tb e args s (.returned v) u) :
    ArmFor flags0 classFile x code maxLocals ret World_1 tables_1 room_1 Calls_1 rest_1 Pre_1 Post := by
  intro l hfl _ _ p e ha hc hk s m args below hf hA hF happ hP
  obtain ⟨hcalls, hrest, hpre⟩ := hP
  obtain ⟨-, -, -, hnamed, -, -, -, hat⟩ := (Spec.applies_iff hf).mp happ
  obtain ⟨hg, hn⟩ := and_e (Cond.before_iff.mp (show (Jvm.Cond.and given_1 narrow_1).before args s = true from hpre))
  obtain ⟨hg0, hgr0⟩ := and_e hg
  obtain ⟨hg1, hg2⟩ := and_e hgr0
  obtain ⟨w0, w1, rfl⟩ : ∃ w0 w1 : Value, args = #[w0, w1] := by
    have hs : args.size = 2 := by simpa [Cond.value, given_1] using hg0
    obtain ⟨L⟩ := args
    match L, hs with
    | [w0, w1], _ => exact ⟨w0, w1, rfl⟩
  have hw := fun d (hd : d ∈ tables_1) => atoms_spec (ws := Jvm.Cond.code x code maxLocals ret :: tables_1) hat d (List.mem_cons_of_mem _ hd)
  have hfit : Fit s := fun {y c} hc i hi => by
    obtain ⟨ha, rfl⟩ := Array.getElem?_eq_some_iff.mp hc
    have q := List.all_eq_true.mp ((Array.all_eq_true_iff_forall_mem.mp hF) _ (Array.getElem_mem ha)) i (List.mem_range.mpr hi)
    simpa [Array.getElem?_eq_getElem hi] using q
  obtain ⟨x0, ei0⟩ := is_v hg1
  obtain rfl : w0 = (.int x0) := Option.some.inj ei0
  obtain ⟨x1, ei1⟩ := is_v hg2
  obtain rfl : w1 = (.int x1) := Option.some.inj ei1
  obtain ⟨nr0, nr1⟩ := and_e hn
  obtain ⟨nr2, nr3⟩ := and_e nr1
  obtain ⟨nr4, nr5⟩ := and_e nr3
  obtain ⟨nr6, nr7⟩ := and_e nr5
  obtain ⟨nr8, nr9⟩ := and_e nr7
  obtain ⟨nr10, nr11⟩ := and_e nr9
  obtain ⟨nr12, nr13⟩ := and_e nr11
  obtain ⟨nr14, nr15⟩ := and_e nr13
  obtain ⟨nr16, nr17⟩ := and_e nr15
  obtain ⟨nr18, nr19⟩ := and_e nr17
  obtain ⟨nr20, nr21⟩ := and_e nr19
  obtain ⟨nr22, nr23⟩ := and_e nr21
  obtain ⟨nr24, nr25⟩ := and_e nr23
  obtain ⟨nr26, nr27⟩ := and_e nr25
  obtain ⟨nr28, nr29⟩ := and_e nr27
  obtain ⟨nr30, nr31⟩ := and_e nr29
  obtain ⟨nr32, nr33⟩ := and_e nr31
  obtain ⟨a0, ev0⟩ := exa_v nr0
  have E0 : Exa s s.heap a0 "com/example/whisker/whisker/PrimitiveType" := Exa.start ev0 nr0
  have S0 : Sta s s.heap "com/example/whisker/whisker/PrimitiveType" "BOOLEAN" "Lcom/example/whisker/whisker/PrimitiveType;" (.ref a0) := Sta.start ev0 (Or.inr ⟨(hw _ (List.mem_of_getElem? (i := 6) rfl)), (hw _ (List.mem_of_getElem? (i := 7) rfl))⟩)
  have F0 := own_fld ev0 nr4
  obtain ⟨a1, ev1⟩ := exa_v nr10
  have E1 : Exa s s.heap a1 "com/example/whisker/whisker/PrimitiveType" := Exa.start ev1 nr10
  have S1 : Sta s s.heap "com/example/whisker/whisker/PrimitiveType" "BYTE" "Lcom/example/whisker/whisker/PrimitiveType;" (.ref a1) := Sta.start ev1 (Or.inr ⟨(hw _ (List.mem_of_getElem? (i := 6) rfl)), (hw _ (List.mem_of_getElem? (i := 30) rfl))⟩)
  have F1 := own_fld ev1 nr14
  obtain ⟨a2, ev2⟩ := exa_v nr24
  have E2 : Exa s s.heap a2 "com/example/whisker/whisker/PrimitiveType" := Exa.start ev2 nr24
  have S2 : Sta s s.heap "com/example/whisker/whisker/PrimitiveType" "SHORT" "Lcom/example/whisker/whisker/PrimitiveType;" (.ref a2) := Sta.start ev2 (Or.inr ⟨(hw _ (List.mem_of_getElem? (i := 6) rfl)), (hw _ (List.mem_of_getElem? (i := 37) rfl))⟩)
  have F2 := own_fld ev2 nr26
  obtain ⟨a3, ev3⟩ := exa_v nr2
  have E3 : Exa s s.heap a3 "com/example/whisker/whisker/PrimitiveType" := Exa.start ev3 nr2
  have S3 : Sta s s.heap "com/example/whisker/whisker/PrimitiveType" "CHAR" "Lcom/example/whisker/whisker/PrimitiveType;" (.ref a3) := Sta.start ev3 (Or.inr ⟨(hw _ (List.mem_of_getElem? (i := 6) rfl)), (hw _ (List.mem_of_getElem? (i := 9) rfl))⟩)
  have F3 := own_fld ev3 nr6
  obtain ⟨a4, ev4⟩ := exa_v nr28
  have E4 : Exa s s.heap a4 "com/example/whisker/whisker/PrimitiveType" := Exa.start ev4 nr28
  have S4 : Sta s s.heap "com/example/whisker/whisker/PrimitiveType" "INT" "Lcom/example/whisker/whisker/PrimitiveType;" (.ref a4) := Sta.start ev4 (Or.inr ⟨(hw _ (List.mem_of_getElem? (i := 6) rfl)), (hw _ (List.mem_of_getElem? (i := 39) rfl))⟩)
  have F4 := own_fld ev4 nr30
  obtain ⟨a5, ev5⟩ := exa_v nr8
  have E5 : Exa s s.heap a5 "com/example/whisker/whisker/PrimitiveType" := Exa.start ev5 nr8
  have S5 : Sta s s.heap "com/example/whisker/whisker/PrimitiveType" "LONG" "Lcom/example/whisker/whisker/PrimitiveType;" (.ref a5) := Sta.start ev5 (Or.inr ⟨(hw _ (List.mem_of_getElem? (i := 6) rfl)), (hw _ (List.mem_of_getElem? (i := 28) rfl))⟩)
  have F5 := own_fld ev5 nr12
  obtain ⟨a6, ev6⟩ := exa_v nr16
  have E6 : Exa s s.heap a6 "com/example/whisker/whisker/PrimitiveType" := Exa.start ev6 nr16
  have S6 : Sta s s.heap "com/example/whisker/whisker/PrimitiveType" "FLOAT" "Lcom/example/whisker/whisker/PrimitiveType;" (.ref a6) := Sta.start ev6 (Or.inr ⟨(hw _ (List.mem_of_getElem? (i := 6) rfl)), (hw _ (List.mem_of_getElem? (i := 32) rfl))⟩)
  have F6 := own_fld ev6 nr18
  obtain ⟨a7, ev7⟩ := exa_v nr20
  have E7 : Exa s s.heap a7 "com/example/whisker/whisker/PrimitiveType" := Exa.start ev7 nr20
  have S7 : Sta s s.heap "com/example/whisker/whisker/PrimitiveType" "DOUBLE" "Lcom/example/whisker/whisker/PrimitiveType;" (.ref a7) := Sta.start ev7 (Or.inr ⟨(hw _ (List.mem_of_getElem? (i := 6) rfl)), (hw _ (List.mem_of_getElem? (i := 35) rfl))⟩)
  have F7 := own_fld ev7 nr22
  obtain ⟨a8, ev8⟩ := exa_v nr32
  have E8 : Exa s s.heap a8 "com/example/whisker/whisker/PrimitiveType" := Exa.start ev8 nr32
  have S8 : Sta s s.heap "com/example/whisker/whisker/PrimitiveType" "VOID" "Lcom/example/whisker/whisker/PrimitiveType;" (.ref a8) := Sta.start ev8 (Or.inr ⟨(hw _ (List.mem_of_getElem? (i := 6) rfl)), (hw _ (List.mem_of_getElem? (i := 45) rfl))⟩)
  have F8 := own_fld ev8 nr33
  obtain ⟨n, o, h1, h2, h3, _, L, rfl, ⟨rfl, N⟩, hq⟩ := rmL l s _ hw tables_1 x0 x1 a0 a1 a2 a3 a4 a5 a6 a7 a8 s.heap s.heap.size (Nat.le_refl _) S0 S1 S2 S3 S4 S5 S6 S7 S8 E0 E1 E2 E3 E4 E5 E6 E7 E8 F0 F1 F2 F3 F4 F5 F6 F7 F8 (Fld.ne F1 F0 (by simp)) (Fld.ne F2 F0 (by simp)) (Fld.ne F2 F1 (by simp)) (Fld.ne F3 F0 (by simp)) (Fld.ne F3 F1 (by simp)) (Fld.ne F3 F2 (by simp)) (Fld.ne F4 F0 (by simp)) (Fld.ne F4 F1 (by simp)) (Fld.ne F4 F2 (by simp)) (Fld.ne F4 F3 (by simp)) (Fld.ne F5 F0 (by simp)) (Fld.ne F5 F1 (by simp)) (Fld.ne F5 F2 (by simp)) (Fld.ne F5 F3 (by simp)) (Fld.ne F5 F4 (by simp)) (Fld.ne F6 F0 (by simp)) (Fld.ne F6 F1 (by simp)) (Fld.ne F6 F2 (by simp)) (Fld.ne F6 F3 (by simp)) (Fld.ne F6 F4 (by simp)) (Fld.ne F6 F5 (by simp)) (Fld.ne F7 F0 (by simp)) (Fld.ne F7 F1 (by simp)) (Fld.ne F7 F2 (by simp)) (Fld.ne F7 F3 (by simp)) (Fld.ne F7 F4 (by simp)) (Fld.ne F7 F5 (by simp)) (Fld.ne F7 F6 (by simp)) (Fld.ne F8 F0 (by simp)) (Fld.ne F8 F1 (by simp)) (Fld.ne F8 F2 (by simp)) (Fld.ne F8 F3 (by simp)) (Fld.ne F8 F4 (by simp)) (Fld.ne F8 F5 (by simp)) (Fld.ne F8 F6 (by simp)) (Fld.ne F8 F7 (by simp)) p e ha hc hk s m _ below hf ((Spec.applies_iff_loose hf).mp happ).1 ⟨rfl, State.Warmed39.refl s, rfl⟩ trivial
  refine ⟨n, _, h1, h2, h3, hpost _ _ _ _ _ _ ⟨Cond.after_iff.mpr rfl, Cond.after_iff.mpr (eq_i res_at (Term.int_eval (1)) rfl), trivial⟩ ⟨hq.1, hq.2.1, (hq.2.2.sift fun y hy => Or.inr (N y hy)).mono (by decide) (by decide)⟩⟩
theorem main_1_1 : Claimed_1_1 := comes_1 fun _ _ _ _ _ _ h hF => ⟨h.1, hF⟩
theorem main_1_2 : Claimed_1_2 := comes_1 fun _ _ _ _ _ _ h hF => ⟨h.2.1, hF⟩
end Jvm.Pilot.@@N@@
namespace Jvm.Pilot.@@N@@
open Jvm Jvm.ClassFile Sem Op Lib Jvm.Free Jvm.Stand Jvm.Pilot.@@N@@.Jvm.D
/-! MADE BY PROGRAM (witnessworld.py) out of the Statement's table words and the real class files: 13 classes; the members and pool entries that the words name. The judged class is class 1, her method 3. -/
namespace start1
open Jvm.ClassFile
def u (s : String) : CpInfo := .utf8 (stringToUtf16 s)
/-- a pool by its gaps: so many unusable entries, then the entry; so many at the end -/
def gap : Nat → List CpInfo → List CpInfo
  | 0, r => r
  | n + 1, r => .unusable :: gap n r
def poolList (es : List (Nat × CpInfo)) (last : Nat) : List CpInfo := es.foldr (fun e r => gap e.1 (e.2 :: r)) (gap last [])
def pool (es : List (Nat × CpInfo)) (last : Nat) : Array CpInfo := ⟨poolList es last⟩
def fileOf (pool : Array CpInfo) (this : Nat) (attrs : Array Attribute := #[]) (ms : Array MethodInfo := #[]) (fl : Nat := 33) (sup : Nat := 0) (ifs : Array Nat := #[]) (fds : Array FieldInfo := #[]) : ClassFile where
  minorVersion := 0
  majorVersion := 65
  constantPool := pool
  accessFlags := fl
  thisClass := this
  superClass := sup
  interfaces := ifs
  fields := fds
  methods := ms
  attributes := attrs
def plain (name : String) (sup : Option ClassId) : Class where
  name := name
  kind := .ordinary
  loader := none
  accessFlags := 33
  super := sup
  interfaces := #[]
  cf := none
  fields := #[]
  methods := #[]
  instanceTypes := #[]
  staticTypes := #[]
  resolved := #[]
  callSites := []
  init := .initialized
  statics := none
  mirror := none

def pool0 : Array CpInfo := pool [(5, u "<init>"), (0, u "()V"), (1, .class_ 10), (1, u "java/lang/Object")] 113

def k0m0 : Method := { name := "<init>", desc := "()V", sig := { parameters := [], returnType := none }, accessFlags := 1, code := none }
/-- java/lang/Object -/
def k0 : Class := { plain "java/lang/Object" none with
  accessFlags := 33
  interfaces := #[]
  cf := some (fileOf pool0 8 #[] #[{ accessFlags := 1, nameIndex := 5, descriptorIndex := 6, attributes := #[] }] 33 0 #[] #[])
  fields := #[]
  methods := #[k0m0]
  instanceTypes := #[]
  staticTypes := #[]
  resolved := Array.replicate 124 none
  statics := none }

def pool1 : Array CpInfo := pool [(2, .class_ 4), (1, u "java/lang/Object"), (0, u "<init>"), (0, u "()V"), (0, .fieldref 8 9), (0, .class_ 10), (0, .nameAndType 11 12), (0, u "com/example/whisker/whisker/PrimitiveType"), (0, u "BOOLEAN"), (0, u "Lcom/example/whisker/whisker/PrimitiveType;"), (0, .fieldref 8 14), (0, .nameAndType 15 12), (0, u "BYTE"), (0, .fieldref 8 17), (0, .nameAndType 18 12), (0, u "SHORT"), (0, .fieldref 8 20), (0, .nameAndType 21 12), (0, u "CHAR"), (0, .fieldref 8 23), (0, .nameAndType 24 12), (0, u "INT"), (0, .fieldref 8 26), (0, .nameAndType 27 12), (0, u "LONG"), (0, .fieldref 8 29), (0, .nameAndType 30 12), (0, u "FLOAT"), (0, .fieldref 8 32), (0, .nameAndType 33 12), (0, u "DOUBLE"), (0, .fieldref 8 35), (0, .nameAndType 36 12), (0, u "VOID"), (0, .integer 2147483647), (0, .methodref 39 40), (0, .class_ 41), (0, .nameAndType 42 43), (0, u "com/example/whisker/whisker/PrimitiveTypeWidensToPinLaw"), (0, u "pick"), (0, u "(I)Lcom/example/whisker/whisker/PrimitiveType;"), (0, .methodref 39 45), (0, .nameAndType 46 47), (0, u "rank"), (0, u "(I)I"), (0, .methodref 8 49), (0, .nameAndType 50 51), (0, u "widensTo"), (0, u "(Lcom/example/whisker/whisker/PrimitiveType;)Z"), (3, u "law"), (0, u "(II)Z")] 2

def k1m0 : Method := { name := "<init>", desc := "()V", sig := { parameters := [], returnType := none }, accessFlags := 2, code := none }
def k1c1 : Code := { maxStack := 2, maxLocals := 1, code := method_2_code, exceptionTable := #[], attributes := #[] }
def k1m1 : Method := { name := "pick", desc := "(I)Lcom/example/whisker/whisker/PrimitiveType;", sig := { parameters := [.int], returnType := some (.object "com/example/whisker/whisker/PrimitiveType") }, accessFlags := 10, code := some k1c1 }
def k1c2 : Code := { maxStack := 2, maxLocals := 1, code := method_3_code, exceptionTable := #[], attributes := #[] }
def k1m2 : Method := { name := "rank", desc := "(I)I", sig := { parameters := [.int], returnType := some .int }, accessFlags := 10, code := some k1c2 }
def k1c3 : Code := { maxStack := 2, maxLocals := 9, code := code, exceptionTable := #[], attributes := #[] }
def k1m3 : Method := { name := "law", desc := "(II)Z", sig := { parameters := [.int, .int], returnType := some .boolean }, accessFlags := 9, code := some k1c3 }
/-- com/example/whisker/whisker/PrimitiveTypeWidensToPinLaw -/
def k1 : Class := { plain "com/example/whisker/whisker/PrimitiveTypeWidensToPinLaw" (some 0) with
  accessFlags := 49
  interfaces := #[]
  cf := some (fileOf pool1 39 #[] #[{ accessFlags := 2, nameIndex := 5, descriptorIndex := 6, attributes := #[] }, { accessFlags := 10, nameIndex := 42, descriptorIndex := 43, attributes := #[] }, { accessFlags := 10, nameIndex := 46, descriptorIndex := 47, attributes := #[] }, { accessFlags := 9, nameIndex := 55, descriptorIndex := 56, attributes := #[] }] 49 2 #[] #[])
  fields := #[]
  methods := #[k1m0, k1m1, k1m2, k1m3]
  instanceTypes := #[]
  staticTypes := #[]
  resolved := Array.replicate 59 none
  statics := none }

def pool2 : Array CpInfo := pool [(1, .class_ 2), (0, u "java/lang/constant/Constable"), (0, .class_ 4), (0, u "java/lang/Object")] 6

/-- java/lang/constant/Constable -/
def k2 : Class := { plain "java/lang/constant/Constable" (some 0) with
  accessFlags := 1537
  interfaces := #[]
  cf := some (fileOf pool2 1 #[] #[] 1537 3 #[] #[])
  fields := #[]
  methods := #[]
  instanceTypes := #[]
  staticTypes := #[]
  resolved := Array.replicate 11 none
  statics := none }

def pool3 : Array CpInfo := pool [(1, .class_ 2), (0, u "java/lang/Comparable"), (0, .class_ 4), (0, u "java/lang/Object")] 7

/-- java/lang/Comparable -/
def k3 : Class := { plain "java/lang/Comparable" (some 0) with
  accessFlags := 1537
  interfaces := #[]
  cf := some (fileOf pool3 1 #[] #[] 1537 3 #[] #[])
  fields := #[]
  methods := #[]
  instanceTypes := #[]
  staticTypes := #[]
  resolved := Array.replicate 12 none
  statics := none }

def pool4 : Array CpInfo := pool [(1, .class_ 2), (0, u "java/io/Serializable"), (0, .class_ 4), (0, u "java/lang/Object")] 2

/-- java/io/Serializable -/
def k4 : Class := { plain "java/io/Serializable" (some 0) with
  accessFlags := 1537
  interfaces := #[]
  cf := some (fileOf pool4 1 #[] #[] 1537 3 #[] #[])
  fields := #[]
  methods := #[]
  instanceTypes := #[]
  staticTypes := #[]
  resolved := Array.replicate 7 none
  statics := none }

def pool5 : Array CpInfo := pool [(2, .class_ 4), (1, u "java/lang/Enum"), (0, u "name"), (0, u "Ljava/lang/String;"), (0, .fieldref 2 8), (0, .nameAndType 9 10), (0, u "ordinal"), (0, u "I"), (1, .class_ 14), (1, u "java/lang/Object"), (4, u "hash"), (86, .class_ 108), (1, u "java/lang/Enum$EnumDesc"), (2, .class_ 112), (0, u "java/lang/constant/Constable"), (0, .class_ 114), (0, u "java/lang/Comparable"), (0, .class_ 116), (0, u "java/io/Serializable"), (9, u "()I")] 77

def k5c0 : Code := { maxStack := 1, maxLocals := 1, code := jdk_37_method_2_code, exceptionTable := #[], attributes := #[] }
def k5m0 : Method := { name := "ordinal", desc := "()I", sig := { parameters := [], returnType := some .int }, accessFlags := 17, code := some k5c0 }
/-- java/lang/Enum -/
def k5 : Class := { plain "java/lang/Enum" (some 0) with
  accessFlags := 1057
  interfaces := #[2, 3, 4]
  cf := some (fileOf pool5 2 #[.nestMembers #[106]] #[{ accessFlags := 17, nameIndex := 9, descriptorIndex := 126, attributes := #[] }] 1057 12 #[111, 113, 115] #[{ accessFlags := 18, nameIndex := 5, descriptorIndex := 6, attributes := #[] }, { accessFlags := 18, nameIndex := 9, descriptorIndex := 10, attributes := #[] }, { accessFlags := 2, nameIndex := 19, descriptorIndex := 10, attributes := #[] }])
  fields := #[{ name := "name", type := (.object "java/lang/String"), accessFlags := 18, slot := 0, constantValue := 0 }, { name := "ordinal", type := .int, accessFlags := 18, slot := 1, constantValue := 0 }, { name := "hash", type := .int, accessFlags := 2, slot := 2, constantValue := 0 }]
  methods := #[k5m0]
  instanceTypes := #[(.object "java/lang/String"), .int, .int]
  staticTypes := #[]
  resolved := Array.replicate 204 none
  statics := none }

def pool6 : Array CpInfo := pool [(1, .class_ 2), (0, u "com/example/whisker/whisker/Type"), (0, .class_ 4), (0, u "java/lang/Object")] 27

/-- com/example/whisker/whisker/Type -/
def k6 : Class := { plain "com/example/whisker/whisker/Type" (some 0) with
  accessFlags := 1536
  interfaces := #[]
  cf := some (fileOf pool6 1 #[] #[] 1536 3 #[] #[])
  fields := #[]
  methods := #[]
  instanceTypes := #[]
  staticTypes := #[]
  resolved := Array.replicate 32 none
  statics := none }

def pool7 : Array CpInfo := pool [(1, .class_ 2), (0, u "com/example/whisker/whisker/PrimitiveType"), (2, u "BOOLEAN"), (0, u "Lcom/example/whisker/whisker/PrimitiveType;"), (2, u "BYTE"), (0, .fieldref 1 11), (0, .nameAndType 12 6), (0, u "SHORT"), (2, u "CHAR"), (0, .fieldref 1 17), (0, .nameAndType 18 6), (0, u "INT"), (0, .fieldref 1 20), (0, .nameAndType 21 6), (0, u "LONG"), (0, .fieldref 1 23), (0, .nameAndType 24 6), (0, u "FLOAT"), (0, .fieldref 1 26), (0, .nameAndType 27 6), (0, u "DOUBLE"), (2, u "VOID"), (2, u "$VALUES"), (0, u "[Lcom/example/whisker/whisker/PrimitiveType;"), (6, .class_ 43), (1, u "java/lang/Enum"), (8, u "keyword"), (0, u "Ljava/lang/String;"), (2, u "descriptor"), (7, u "wrapper"), (0, u "Lcom/example/whisker/whisker/ClassType;"), (1, .class_ 69), (1, u "com/example/whisker/whisker/Type"), (20, .methodref 1 91), (0, .nameAndType 92 93), (0, u "ordinal"), (0, u "()I"), (0, .methodref 1 95), (0, .nameAndType 96 97), (0, u "widensTo"), (0, u "(Lcom/example/whisker/whisker/PrimitiveType;)Z")] 88

def k7c0 : Code := { maxStack := 2, maxLocals := 2, code := prog_13_method_8_code, exceptionTable := #[], attributes := #[] }
def k7m0 : Method := { name := "widensTo", desc := "(Lcom/example/whisker/whisker/PrimitiveType;)Z", sig := { parameters := [(.object "com/example/whisker/whisker/PrimitiveType")], returnType := some .boolean }, accessFlags := 0, code := some k7c0 }
/-- com/example/whisker/whisker/PrimitiveType -/
def k7 : Class := { plain "com/example/whisker/whisker/PrimitiveType" (some 5) with
  accessFlags := 16432
  interfaces := #[6]
  cf := some (fileOf pool7 1 #[] #[{ accessFlags := 0, nameIndex := 96, descriptorIndex := 97, attributes := #[] }] 16432 41 #[67] #[{ accessFlags := 16409, nameIndex := 5, descriptorIndex := 6, attributes := #[] }, { accessFlags := 16409, nameIndex := 9, descriptorIndex := 6, attributes := #[] }, { accessFlags := 16409, nameIndex := 12, descriptorIndex := 6, attributes := #[] }, { accessFlags := 16409, nameIndex := 15, descriptorIndex := 6, attributes := #[] }, { accessFlags := 16409, nameIndex := 18, descriptorIndex := 6, attributes := #[] }, { accessFlags := 16409, nameIndex := 21, descriptorIndex := 6, attributes := #[] }, { accessFlags := 16409, nameIndex := 24, descriptorIndex := 6, attributes := #[] }, { accessFlags := 16409, nameIndex := 27, descriptorIndex := 6, attributes := #[] }, { accessFlags := 16409, nameIndex := 30, descriptorIndex := 6, attributes := #[] }, { accessFlags := 18, nameIndex := 52, descriptorIndex := 53, attributes := #[] }, { accessFlags := 18, nameIndex := 56, descriptorIndex := 53, attributes := #[] }, { accessFlags := 18, nameIndex := 64, descriptorIndex := 65, attributes := #[] }, { accessFlags := 4122, nameIndex := 33, descriptorIndex := 34, attributes := #[] }])
  fields := #[{ name := "BOOLEAN", type := (.object "com/example/whisker/whisker/PrimitiveType"), accessFlags := 16409, slot := 0, constantValue := 0 }, { name := "BYTE", type := (.object "com/example/whisker/whisker/PrimitiveType"), accessFlags := 16409, slot := 1, constantValue := 0 }, { name := "SHORT", type := (.object "com/example/whisker/whisker/PrimitiveType"), accessFlags := 16409, slot := 2, constantValue := 0 }, { name := "CHAR", type := (.object "com/example/whisker/whisker/PrimitiveType"), accessFlags := 16409, slot := 3, constantValue := 0 }, { name := "INT", type := (.object "com/example/whisker/whisker/PrimitiveType"), accessFlags := 16409, slot := 4, constantValue := 0 }, { name := "LONG", type := (.object "com/example/whisker/whisker/PrimitiveType"), accessFlags := 16409, slot := 5, constantValue := 0 }, { name := "FLOAT", type := (.object "com/example/whisker/whisker/PrimitiveType"), accessFlags := 16409, slot := 6, constantValue := 0 }, { name := "DOUBLE", type := (.object "com/example/whisker/whisker/PrimitiveType"), accessFlags := 16409, slot := 7, constantValue := 0 }, { name := "VOID", type := (.object "com/example/whisker/whisker/PrimitiveType"), accessFlags := 16409, slot := 8, constantValue := 0 }, { name := "keyword", type := (.object "java/lang/String"), accessFlags := 18, slot := 3, constantValue := 0 }, { name := "descriptor", type := (.object "java/lang/String"), accessFlags := 18, slot := 4, constantValue := 0 }, { name := "wrapper", type := (.object "com/example/whisker/whisker/ClassType"), accessFlags := 18, slot := 5, constantValue := 0 }, { name := "$VALUES", type := (.array (.object "com/example/whisker/whisker/PrimitiveType")), accessFlags := 4122, slot := 9, constantValue := 0 }]
  methods := #[k7m0]
  instanceTypes := #[(.object "java/lang/String"), .int, .int, (.object "java/lang/String"), (.object "java/lang/String"), (.object "com/example/whisker/whisker/ClassType")]
  staticTypes := #[(.object "com/example/whisker/whisker/PrimitiveType"), (.object "com/example/whisker/whisker/PrimitiveType"), (.object "com/example/whisker/whisker/PrimitiveType"), (.object "com/example/whisker/whisker/PrimitiveType"), (.object "com/example/whisker/whisker/PrimitiveType"), (.object "com/example/whisker/whisker/PrimitiveType"), (.object "com/example/whisker/whisker/PrimitiveType"), (.object "com/example/whisker/whisker/PrimitiveType"), (.object "com/example/whisker/whisker/PrimitiveType"), (.array (.object "com/example/whisker/whisker/PrimitiveType"))]
  resolved := Array.replicate 186 none
  statics := some 0 }

def pool8 : Array CpInfo := pool [(1, u "java/lang/Cloneable"), (0, .class_ 1), (0, u "java/lang/Object"), (0, .class_ 3)] 3

/-- java/lang/Cloneable -/
def k8 : Class := { plain "java/lang/Cloneable" (some 0) with
  accessFlags := 1537
  interfaces := #[]
  cf := some (fileOf pool8 2 #[] #[] 1537 4 #[] #[])
  fields := #[]
  methods := #[]
  instanceTypes := #[]
  staticTypes := #[]
  resolved := Array.replicate 8 none
  statics := none }

/-- the primitive byte -/
def k9 : Class := { plain "byte" none with kind := .primitive 'B', accessFlags := 0x411 }
/-- [B -/
def k10 : Class := { plain "[B" (some 0) with kind := .array 9 .byte, interfaces := #[8, 4], accessFlags := 1041 }

/-- the primitive int -/
def k11 : Class := { plain "int" none with kind := .primitive 'I', accessFlags := 0x411 }
/-- [I -/
def k12 : Class := { plain "[I" (some 0) with kind := .array 11 .int, interfaces := #[8, 4], accessFlags := 1041 }

def heap : Heap := #[{ cls := 7, slots := #[.ref 1, .ref 2, .ref 3, .ref 4, .ref 5, .ref 6, .ref 7, .ref 8, .ref 9, .null], vm := .statics 7 },
  { cls := 7, slots := #[.null, .int 0, .int 0, .null, .null, .null], vm := .none },
  { cls := 7, slots := #[.null, .int 1, .int 0, .null, .null, .null], vm := .none },
  { cls := 7, slots := #[.null, .int 2, .int 0, .null, .null, .null], vm := .none },
  { cls := 7, slots := #[.null, .int 3, .int 0, .null, .null, .null], vm := .none },
  { cls := 7, slots := #[.null, .int 4, .int 0, .null, .null, .null], vm := .none },
  { cls := 7, slots := #[.null, .int 5, .int 0, .null, .null, .null], vm := .none },
  { cls := 7, slots := #[.null, .int 6, .int 0, .null, .null, .null], vm := .none },
  { cls := 7, slots := #[.null, .int 7, .int 0, .null, .null, .null], vm := .none },
  { cls := 7, slots := #[.null, .int 8, .int 0, .null, .null, .null], vm := .none }]
def classes : Array Class := #[k0, k1, k2, k3, k4, k5, k6, k7, k8, k9, k10, k11, k12]
def interned : List (Array UInt16 × Addr) := []
def slotsUsed : Nat := 64
def theMethod : MethodId := ⟨1, 3⟩
def args0 : Array Value := #[.int 5, .int 7]
def aboutOver (below : List Frame) : State where
  vm := { classes := classes, interned := interned.toArray }
  heap := heap
  slotsUsed := slotsUsed
  threads := #[{ frames := .invoking theMethod args0 :: below }]
def below0 : List Frame := [.native { method := ⟨0, 0⟩, args := #[] }]
def about1 : State := aboutOver below0
def p0 : Program := .bare "" "" ""
def e0 : Env := launch0.env 0 0 0
theorem w_frames : about1.frames = Frame.invoking theMethod args0 :: below0 := rfl
set_option maxRecDepth 65536 in
theorem w_args : argsFit about1.vm theMethod args0 = true := by decide +kernel
set_option maxRecDepth 65536 in
theorem w_heap : heapFits about1 = true := by decide +kernel
set_option maxRecDepth 65536 in
theorem w_runnable : about1.curStatus? = some .runnable := by decide +kernel
set_option maxRecDepth 65536 in
theorem w_alone : about1.alone = true := by decide +kernel
set_option maxRecDepth 65536 in
theorem w_named : about1.methodNamed? x = some theMethod := by decide +kernel
set_option maxRecDepth 65536 in
theorem w_hears : about1.hears theMethod below0 = true := by decide +kernel
set_option maxRecDepth 65536 in
theorem w_ripe : about1.ripe theMethod args0 below0 = true := by decide +kernel
theorem w_running : about1.status = .running := rfl
set_option maxRecDepth 65536 in
theorem w_room : about1.hasRoom e0.platform room_1 = true :=
  launch0.hasRoom_least _ room_1 (by decide +kernel) (by decide +kernel) (by decide +kernel) (by decide +kernel) (by decide +kernel) (by decide +kernel)
theorem allAtoms_all (ts : List Jvm.Cond) (a : Array Jvm.Value) (st : Jvm.State) : (allAtoms ts).before a st = ts.all (fun c => c.before a st) := by
  induction ts with
  | nil => rfl
  | cons c t ih =>
    show (Jvm.Cond.and c (allAtoms t)).before a st = _
    rw [Jvm.Cond.before_and, ih, List.all_cons]
def words1 : List Jvm.Cond := Jvm.Cond.code x code maxLocals ret :: tables_1
/-- a 'code' word, met by the world's own term for the bytes: nothing is compared byte by byte -/
theorem code_word {y : MethodName} {bytes : ByteArray} {mx : Nat} {rt : Option FieldType} {a : Array Value} {s : State} {m : MethodId} {meth : Method} {c : Code} (h1 : s.methodNamed? y = some m) (h2 : s.vm.method? m = some meth) (h3 : meth.code = some c) (h4 : c.code = bytes)
    (h5 : (c.maxLocals == mx && c.exceptionTable.isEmpty && decide (c.maxStack ≤ mostOperands) && decide (meth.sig.returnType = rt) && !meth.locks && decide (parseMethodDescriptor y.desc = some meth.sig)) = true) : (Jvm.Cond.code y bytes mx rt).before a s = true := by
  simp only [Bool.and_eq_true, beq_iff_eq, Bool.not_eq_true', decide_eq_true_eq] at h5
  obtain ⟨⟨⟨⟨⟨g1, g2⟩, g3⟩, g4⟩, g5⟩, g6⟩ := h5
  simp [Cond.before, Cond.holds, Cond.value, h1, h2, h3, h4, g1, g2, g3, g4, g5, g6]
def isCode : Jvm.Cond → Bool
  | .code _ _ _ _ => true
  | _ => false
theorem all_split {L : List Jvm.Cond} {P : Jvm.Cond → Bool} (h1 : L.all (fun c => isCode c || P c) = true) (h2 : ∀ c ∈ L.filter isCode, P c = true) : L.all P = true := by
  refine List.all_eq_true.mpr fun c hc => ?_
  have h := List.all_eq_true.mp h1 c hc
  rcases Bool.eq_false_or_eq_true (isCode c) with hi | hi
  · exact h2 c (List.mem_filter.mpr ⟨hc, hi⟩)
  · simpa [hi] using h
set_option maxRecDepth 65536 in
theorem w_c0 : (Jvm.Cond.code x code maxLocals ret).before args0 about1 = true := code_word (m := ⟨1, 3⟩) (meth := k1m3) (c := k1c3) (by decide +kernel) rfl rfl rfl (by decide +kernel)
set_option maxRecDepth 65536 in
theorem w_c1 : (Jvm.Cond.code ({ cls := "com/example/whisker/whisker/PrimitiveTypeWidensToPinLaw", name := "pick", desc := "(I)Lcom/example/whisker/whisker/PrimitiveType;" } : Jvm.MethodName) method_2_code (1 : Nat) (Option.some (Jvm.ClassFile.FieldType.object "com/example/whisker/whisker/PrimitiveType"))).before args0 about1 = true := code_word (m := ⟨1, 1⟩) (meth := k1m1) (c := k1c1) (by decide +kernel) rfl rfl rfl (by decide +kernel)
set_option maxRecDepth 65536 in
theorem w_c2 : (Jvm.Cond.code ({ cls := "com/example/whisker/whisker/PrimitiveTypeWidensToPinLaw", name := "rank", desc := "(I)I" } : Jvm.MethodName) method_3_code (1 : Nat) (Option.some Jvm.ClassFile.FieldType.int)).before args0 about1 = true := code_word (m := ⟨1, 2⟩) (meth := k1m2) (c := k1c2) (by decide +kernel) rfl rfl rfl (by decide +kernel)
set_option maxRecDepth 65536 in
theorem w_c3 : (Jvm.Cond.code ({ cls := "com/example/whisker/whisker/PrimitiveType", name := "widensTo", desc := "(Lcom/example/whisker/whisker/PrimitiveType;)Z" } : Jvm.MethodName) prog_13_method_8_code (2 : Nat) (Option.some Jvm.ClassFile.FieldType.boolean)).before args0 about1 = true := code_word (m := ⟨7, 0⟩) (meth := k7m0) (c := k7c0) (by decide +kernel) rfl rfl rfl (by decide +kernel)
set_option maxRecDepth 65536 in
theorem w_c4 : (Jvm.Cond.code ({ cls := "java/lang/Enum", name := "ordinal", desc := "()I" } : Jvm.MethodName) jdk_37_method_2_code (1 : Nat) (Option.some Jvm.ClassFile.FieldType.int)).before args0 about1 = true := code_word (m := ⟨5, 0⟩) (meth := k5m0) (c := k5c0) (by decide +kernel) rfl rfl rfl (by decide +kernel)
def codes1 : List Jvm.Cond := [Jvm.Cond.code x code maxLocals ret, Jvm.Cond.code ({ cls := "com/example/whisker/whisker/PrimitiveTypeWidensToPinLaw", name := "pick", desc := "(I)Lcom/example/whisker/whisker/PrimitiveType;" } : Jvm.MethodName) method_2_code (1 : Nat) (Option.some (Jvm.ClassFile.FieldType.object "com/example/whisker/whisker/PrimitiveType")), Jvm.Cond.code ({ cls := "com/example/whisker/whisker/PrimitiveTypeWidensToPinLaw", name := "rank", desc := "(I)I" } : Jvm.MethodName) method_3_code (1 : Nat) (Option.some Jvm.ClassFile.FieldType.int), Jvm.Cond.code ({ cls := "com/example/whisker/whisker/PrimitiveType", name := "widensTo", desc := "(Lcom/example/whisker/whisker/PrimitiveType;)Z" } : Jvm.MethodName) prog_13_method_8_code (2 : Nat) (Option.some Jvm.ClassFile.FieldType.boolean), Jvm.Cond.code ({ cls := "java/lang/Enum", name := "ordinal", desc := "()I" } : Jvm.MethodName) jdk_37_method_2_code (1 : Nat) (Option.some Jvm.ClassFile.FieldType.int)]
set_option maxRecDepth 65536 in
theorem codes_eq : words1.filter isCode = codes1 := rfl
theorem w_codes : ∀ c ∈ words1.filter isCode, c.before args0 about1 = true := by
  rw [codes_eq]
  intro c hc
  simp only [codes1, List.mem_cons, List.not_mem_nil, or_false] at hc
  rcases hc with rfl | rfl | rfl | rfl | rfl
  · exact w_c0
  · exact w_c1
  · exact w_c2
  · exact w_c3
  · exact w_c4
set_option maxRecDepth 65536 in
theorem w_t1 : (words1.take 24).all (fun c => isCode c || c.before args0 about1) = true := by decide +kernel
set_option maxRecDepth 65536 in
theorem w_t2 : (words1.drop 24).all (fun c => isCode c || c.before args0 about1) = true := by decide +kernel
theorem w_tables : (allAtoms (Jvm.Cond.code x code maxLocals ret :: tables_1)).before args0 about1 = true := by
  rw [allAtoms_all]
  show words1.all (fun c => c.before args0 about1) = true
  refine all_split ?_ w_codes
  rw [← List.take_append_drop 24 words1, List.all_append, w_t1, w_t2]
  rfl
set_option maxRecDepth 65536 in
theorem w_case : (Jvm.Cond.and given_1 narrow_1).before args0 about1 = true := by decide +kernel
theorem w_applies : (headSpec (Jvm.Cond.code x code maxLocals ret :: tables_1) room_1).applies x e0.platform about1 = true :=
  (Spec.applies_iff w_frames).mpr ⟨w_running, w_runnable, w_alone, w_named, w_hears, w_ripe, w_room, w_tables⟩
theorem atStart : AtStart classFile x code maxLocals ret World_1 tables_1 room_1 Calls_1 rest_1 Pre_1 launch0 p0 e0 about1 theMethod args0 below0 :=
  ⟨lists_1, trivial, launch0.admits_env _ _ _, launch0.least_env, fairChoices_fair.cas, fairChoices_fair.clock, w_frames, w_args, w_heap, w_applies, trivial, trivial, w_case⟩
end start1
theorem witness_1 : WitnessClaimed_1 := ⟨start1.p0, start1.e0, start1.about1, start1.theMethod, start1.args0, start1.below0, start1.atStart⟩
end Jvm.Pilot.@@N@@
