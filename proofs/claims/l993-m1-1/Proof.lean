import JvmDerived
import JvmDerived.Pilot.@@N@@Statement
import JvmDerived.Pilot.@@N@@Code
set_option linter.unusedVariables false
set_option linter.unusedSimpArgs false

namespace Jvm.Pilot.@@N@@
open Jvm Jvm.ClassFile Sem Op Lib Jvm.Free Jvm.Stand Jvm.LawKit Jvm.RoadKit Bundle Jvm.Pilot.@@N@@.Jvm.D
/-- from the frame g' at S' the run comes to the frame g at S -/
abbrev Go (p : Program) (e : Env) (below : List Frame) (S : State) (g : JFrame) (S' : State) (g' : JFrame) : Prop := ∀ t, Steps p.tables e below (S.setTop g) t → Steps p.tables e below (S'.setTop g') t

theorem own_fld {args : Array Value} {s : State} {t : Term} {x : Addr} {C n d : String} {k : Int32} (ht : t.eval args s none [] s = some (.ref x)) (h : (Jvm.Cond.eq (.field t C n d) (.int k)).value args s none s [] = some true) : Fld s s.heap x C n d (.int k) := by
  obtain ⟨y, z, h1, h2, h3, -⟩ := cmp_v (Or.inl h)
  have h2' : z = .int k := by simpa [Term.eval] using h2.symm
  subst h2'
  obtain ⟨u, rfl⟩ : ∃ u, y = .int u := by cases y <;> simp [Kin, Value.isRef] at h3 ⊢
  have h4 : u = k := by simpa [Jvm.Cond.value, h1, h2] using h
  subst h4
  exact Fld.start ((fld_at ht).symm.trans h1)

theorem own_m11 (x : Int32) : (x &&& 2147483647) % 11 = 0 ∨ (x &&& 2147483647) % 11 = 1 ∨ (x &&& 2147483647) % 11 = 2 ∨ (x &&& 2147483647) % 11 = 3 ∨ (x &&& 2147483647) % 11 = 4 ∨ (x &&& 2147483647) % 11 = 5 ∨ (x &&& 2147483647) % 11 = 6 ∨ (x &&& 2147483647) % 11 = 7 ∨ (x &&& 2147483647) % 11 = 8 ∨ (x &&& 2147483647) % 11 = 9 ∨ (x &&& 2147483647) % 11 = 10 := by
  have h1 := c_mask x 2147483647 31 (by decide) (by decide)
  have h2 := (c_irem (x &&& 2147483647) 11 11 (by decide)).1 (by omega)
  generalize (x &&& 2147483647) % 11 = k at h2 ⊢
  have e0 : (0 : Int32).toInt = 0 := by decide
  have e1 : (1 : Int32).toInt = 1 := by decide
  have e2 : (2 : Int32).toInt = 2 := by decide
  have e3 : (3 : Int32).toInt = 3 := by decide
  have e4 : (4 : Int32).toInt = 4 := by decide
  have e5 : (5 : Int32).toInt = 5 := by decide
  have e6 : (6 : Int32).toInt = 6 := by decide
  have e7 : (7 : Int32).toInt = 7 := by decide
  have e8 : (8 : Int32).toInt = 8 := by decide
  have e9 : (9 : Int32).toInt = 9 := by decide
  have e10 : (10 : Int32).toInt = 10 := by decide
  simp only [← Int32.toInt_inj, e0, e1, e2, e3, e4, e5, e6, e7, e8, e9, e10]
  omega

def pickF (p : Int32) (w0 w1 w2 w3 w4 w5 w6 w7 w8 w9 w10 : Addr) : Addr := if p = 0 then w0 else if p = 1 then w1 else if p = 2 then w2 else if p = 3 then w3 else if p = 4 then w4 else if p = 5 then w5 else if p = 6 then w6 else if p = 7 then w7 else if p = 8 then w8 else if p = 9 then w9 else w10
def testF (a w9 w10 : Addr) : Int32 := if a = w9 then 1 else if a = w10 then 1 else 0
theorem dP_0 : decode method_2_code 0 = .ok (.iload_n 0, 1) := by decide +kernel
theorem dP_1 : decode method_2_code 1 = .ok (.ifCond .ne 7, 3) := by decide +kernel
theorem dP_4 : decode method_2_code 4 = .ok (.getstatic 7, 3) := by decide +kernel
theorem dP_7 : decode method_2_code 7 = .ok (.areturn, 1) := by decide +kernel
theorem dP_8 : decode method_2_code 8 = .ok (.iload_n 0, 1) := by decide +kernel
theorem dP_9 : decode method_2_code 9 = .ok (.iconst 1, 1) := by decide +kernel
theorem dP_10 : decode method_2_code 10 = .ok (.if_icmp .ne 7, 3) := by decide +kernel
theorem dP_13 : decode method_2_code 13 = .ok (.getstatic 13, 3) := by decide +kernel
theorem dP_16 : decode method_2_code 16 = .ok (.areturn, 1) := by decide +kernel
theorem dP_17 : decode method_2_code 17 = .ok (.iload_n 0, 1) := by decide +kernel
theorem dP_18 : decode method_2_code 18 = .ok (.iconst 2, 1) := by decide +kernel
theorem dP_19 : decode method_2_code 19 = .ok (.if_icmp .ne 7, 3) := by decide +kernel
theorem dP_22 : decode method_2_code 22 = .ok (.getstatic 16, 3) := by decide +kernel
theorem dP_25 : decode method_2_code 25 = .ok (.areturn, 1) := by decide +kernel
theorem dP_26 : decode method_2_code 26 = .ok (.iload_n 0, 1) := by decide +kernel
theorem dP_27 : decode method_2_code 27 = .ok (.iconst 3, 1) := by decide +kernel
theorem dP_28 : decode method_2_code 28 = .ok (.if_icmp .ne 7, 3) := by decide +kernel
theorem dP_31 : decode method_2_code 31 = .ok (.getstatic 19, 3) := by decide +kernel
theorem dP_34 : decode method_2_code 34 = .ok (.areturn, 1) := by decide +kernel
theorem dP_35 : decode method_2_code 35 = .ok (.iload_n 0, 1) := by decide +kernel
theorem dP_36 : decode method_2_code 36 = .ok (.iconst 4, 1) := by decide +kernel
theorem dP_37 : decode method_2_code 37 = .ok (.if_icmp .ne 7, 3) := by decide +kernel
theorem dP_40 : decode method_2_code 40 = .ok (.getstatic 22, 3) := by decide +kernel
theorem dP_43 : decode method_2_code 43 = .ok (.areturn, 1) := by decide +kernel
theorem dP_44 : decode method_2_code 44 = .ok (.iload_n 0, 1) := by decide +kernel
theorem dP_45 : decode method_2_code 45 = .ok (.iconst 5, 1) := by decide +kernel
theorem dP_46 : decode method_2_code 46 = .ok (.if_icmp .ne 7, 3) := by decide +kernel
theorem dP_49 : decode method_2_code 49 = .ok (.getstatic 25, 3) := by decide +kernel
theorem dP_52 : decode method_2_code 52 = .ok (.areturn, 1) := by decide +kernel
theorem dP_53 : decode method_2_code 53 = .ok (.iload_n 0, 1) := by decide +kernel
theorem dP_54 : decode method_2_code 54 = .ok (.bipush 6, 2) := by decide +kernel
theorem dP_56 : decode method_2_code 56 = .ok (.if_icmp .ne 7, 3) := by decide +kernel
theorem dP_59 : decode method_2_code 59 = .ok (.getstatic 28, 3) := by decide +kernel
theorem dP_62 : decode method_2_code 62 = .ok (.areturn, 1) := by decide +kernel
theorem dP_63 : decode method_2_code 63 = .ok (.iload_n 0, 1) := by decide +kernel
theorem dP_64 : decode method_2_code 64 = .ok (.bipush 7, 2) := by decide +kernel
theorem dP_66 : decode method_2_code 66 = .ok (.if_icmp .ne 7, 3) := by decide +kernel
theorem dP_69 : decode method_2_code 69 = .ok (.getstatic 31, 3) := by decide +kernel
theorem dP_72 : decode method_2_code 72 = .ok (.areturn, 1) := by decide +kernel
theorem dP_73 : decode method_2_code 73 = .ok (.iload_n 0, 1) := by decide +kernel
theorem dP_74 : decode method_2_code 74 = .ok (.bipush 8, 2) := by decide +kernel
theorem dP_76 : decode method_2_code 76 = .ok (.if_icmp .ne 7, 3) := by decide +kernel
theorem dP_79 : decode method_2_code 79 = .ok (.getstatic 34, 3) := by decide +kernel
theorem dP_82 : decode method_2_code 82 = .ok (.areturn, 1) := by decide +kernel
theorem dP_83 : decode method_2_code 83 = .ok (.iload_n 0, 1) := by decide +kernel
theorem dP_84 : decode method_2_code 84 = .ok (.bipush 9, 2) := by decide +kernel
theorem dP_86 : decode method_2_code 86 = .ok (.if_icmp .ne 7, 3) := by decide +kernel
theorem dP_89 : decode method_2_code 89 = .ok (.getstatic 37, 3) := by decide +kernel
theorem dP_92 : decode method_2_code 92 = .ok (.areturn, 1) := by decide +kernel
theorem dP_93 : decode method_2_code 93 = .ok (.getstatic 40, 3) := by decide +kernel
theorem dP_96 : decode method_2_code 96 = .ok (.areturn, 1) := by decide +kernel
theorem pnP : plainName "com/example/tiro/tiro/vault/DataTypeIsLookupPinLaw" = true := by first | (simp [plainName, overriddenIn]; done) | decide +kernel
theorem efP (m : MethodId) (p1 : Int32) : entryFrame m #[(.int p1)] 1 = mkF m 0 #[.val (.int p1)] [] := by first | (simp [entryFrame, mkF, argsToLocals, Value.category]; done) | rfl
def QP (Z : State) (p1 : Int32) (w0 : Addr) (w1 : Addr) (w2 : Addr) (w3 : Addr) (w4 : Addr) (w5 : Addr) (w6 : Addr) (w7 : Addr) (w8 : Addr) (w9 : Addr) (w10 : Addr) (r : Addr) (h0 : Heap) (n0 : Nat) (v : Option Value) (h : Heap) (L : List Loc) : Prop := v = some (.ref r) ∧ Fr n0 L ∧ h = h0
set_option maxRecDepth 65536 in
set_option maxHeartbeats 40000000 in
theorem rmP (l : Launch) (Z : State) (a0 : Array Value) (hw : ∀ d ∈ tables_1, d.before a0 Z = true) (ws : List Jvm.Cond) (p1 : Int32) (w0 : Addr) (w1 : Addr) (w2 : Addr) (w3 : Addr) (w4 : Addr) (w5 : Addr) (w6 : Addr) (w7 : Addr) (w8 : Addr) (w9 : Addr) (w10 : Addr) (r : Addr) (h0 : Heap) (n0 : Nat) (Z0 : n0 ≤ h0.size) (S0 : Sta Z h0 "com/example/tiro/tiro/vault/DataType" "TEXT" "Lcom/example/tiro/tiro/vault/DataType;" (.ref w0)) (S1 : Sta Z h0 "com/example/tiro/tiro/vault/DataType" "MULTILINE_TEXT" "Lcom/example/tiro/tiro/vault/DataType;" (.ref w1)) (S2 : Sta Z h0 "com/example/tiro/tiro/vault/DataType" "INTEGER" "Lcom/example/tiro/tiro/vault/DataType;" (.ref w2)) (S3 : Sta Z h0 "com/example/tiro/tiro/vault/DataType" "INTEGER64" "Lcom/example/tiro/tiro/vault/DataType;" (.ref w3)) (S4 : Sta Z h0 "com/example/tiro/tiro/vault/DataType" "REAL" "Lcom/example/tiro/tiro/vault/DataType;" (.ref w4)) (S5 : Sta Z h0 "com/example/tiro/tiro/vault/DataType" "DATE" "Lcom/example/tiro/tiro/vault/DataType;" (.ref w5)) (S6 : Sta Z h0 "com/example/tiro/tiro/vault/DataType" "TIME" "Lcom/example/tiro/tiro/vault/DataType;" (.ref w6)) (S7 : Sta Z h0 "com/example/tiro/tiro/vault/DataType" "TIMESTAMP" "Lcom/example/tiro/tiro/vault/DataType;" (.ref w7)) (S8 : Sta Z h0 "com/example/tiro/tiro/vault/DataType" "BOOLEAN" "Lcom/example/tiro/tiro/vault/DataType;" (.ref w8)) (S9 : Sta Z h0 "com/example/tiro/tiro/vault/DataType" "LOOKUP" "Lcom/example/tiro/tiro/vault/DataType;" (.ref w9)) (S10 : Sta Z h0 "com/example/tiro/tiro/vault/DataType" "MULTI_SELECT_LOOKUP" "Lcom/example/tiro/tiro/vault/DataType;" (.ref w10)) (hR : pickF p1 w0 w1 w2 w3 w4 w5 w6 w7 w8 w9 w10 = r) :
    MetFree l (⟨"com/example/tiro/tiro/vault/DataTypeIsLookupPinLaw", "pick", "(I)Lcom/example/tiro/tiro/vault/DataType;"⟩ : MethodName) (head1 (Jvm.Cond.code (⟨"com/example/tiro/tiro/vault/DataTypeIsLookupPinLaw", "pick", "(I)Lcom/example/tiro/tiro/vault/DataType;"⟩ : MethodName) method_2_code 1 (some (.object "com/example/tiro/tiro/vault/DataType")) :: ws) ({ frames := 0, cells := 0, slots := 0, locals := 0 } : Room)) (fun a U => a = #[(.int p1)] ∧ Z.Warmed39 U.vm ∧ U.heap = h0) (fun _ _ _ _ _ => True) (fun _ U o U' => ∃ v L, o = .returned v ∧ QP Z p1 w0 w1 w2 w3 w4 w5 w6 w7 w8 w9 w10 r h0 n0 v U'.heap L ∧ FrameEnd U o U' L ({ frames := 0, cells := 0, slots := 0, locals := 0 } : Room).cells ({ frames := 0, cells := 0, slots := 0, locals := 0 } : Room).slots) := by
  refine MetFree.of_bodySF (plainFor_of_name pnP) hisR ?_
  intro p e s m args below meth c s₁ Bd hml0 hP hK
  obtain ⟨rfl, hZ, hh⟩ := hP
  have hx := Bd.exec
  have hby := Bd.bytes
  have hml : c.maxLocals = 1 := hml0
  have hown : s.vm.findClass "com/example/tiro/tiro/vault/DataTypeIsLookupPinLaw" = some m.cls := findClass_of_methodNamed Bd.named
  have hnm := (name_of_methodNamed Bd.named Bd.method).1
  have X0 : Stand p l e ({ frames := 0, cells := 0, slots := 0, locals := 0 } : Room) s m #[(.int p1)] below meth c s₁ [] 0 0 := Stand.of_body Bd
  have e0 : s₁.heap = h0 := by rw [← hh, Bd.state]; rfl
  have N0 := Fr.nil n0
  have pre0 : Go p e below s₁ (mkF m 0 #[.val (.int p1)] []) s₁ (entryFrame m #[(.int p1)] 1) := fun t k => castTop (efP m p1) k
  have pre1 : Go p e below s₁ (mkF m 1 #[.val (.int p1)] [(.int p1)]) s₁ (entryFrame m #[(.int p1)] 1) := fun t k => pre0 t (by
      show Steps p.tables e below (s₁.setTop (mkF m 0 #[.val (.int p1)] [])) t
      refine XS.iloadN X0.here hx rfl (hb hby dP_0) rfl ?_
      exact k)
  by_cases hc1 : p1 = (0 : Int32)
  · have pre2 : Go p e below s₁ (mkF m 4 #[.val (.int p1)] []) s₁ (entryFrame m #[(.int p1)] 1) := fun t k => pre1 t (XS.ifNo X0.here hx rfl (hb hby dP_1) rfl ((if0 _ _).trans (teq hc1).2) k)
    obtain ⟨T3, X3, e3, st3⟩ := getS2 X0 hx hZ hown (host := "") (Or.inl (hw _ (List.mem_of_getElem? (i := 5) rfl))) Via.refl e0 S0 (g := (mkF m 4 #[.val (.int p1)] [])) rfl (hb hby dP_4)
    have pre4 : Go p e below T3 (mkF m 7 #[.val (.int p1)] [(.ref w0)]) s₁ (entryFrame m #[(.int p1)] 1) := fun t k => pre2 t (st3 t k)
    obtain ⟨fs, hr, hrun, hended, hW, hsame⟩ := X3.leave (v := some (.ref w0)) (fun h => by rw [Bd.returns] at h; cases h)
    refine ⟨_, _, pre4 _ (retOut X3 hx Bd.returns rfl (Or.inr (Or.inr (Or.inr (Or.inr ⟨rfl, rfl, rfl⟩)))) (hb hby dP_7) hr), hrun, hended, _, _, rfl, ?_, ⟨_, rfl⟩, hW, hsame.mono (by decide) (by decide)⟩
    show QP Z p1 w0 w1 w2 w3 w4 w5 w6 w7 w8 w9 w10 r h0 n0 _ T3.heap _
    rw [e3]
    exact ⟨by rw [← hR]; simp [pickF, hc1], N0, rfl⟩
  · have pre5 : Go p e below s₁ (mkF m 8 #[.val (.int p1)] []) s₁ (entryFrame m #[(.int p1)] 1) := fun t k => pre1 t (XS.ifYes X0.here hx rfl (pc0 := 1) (pc' := 8) rfl (hb hby dP_1) rfl ((if0 _ _).trans (feq hc1).2) (by decide) (by decide) k)
    have pre6 : Go p e below s₁ (mkF m 10 #[.val (.int p1)] [(.int (1 : Int32)), (.int p1)]) s₁ (entryFrame m #[(.int p1)] 1) := fun t k => pre5 t (by
        show Steps p.tables e below (s₁.setTop (mkF m 8 #[.val (.int p1)] [])) t
        refine XS.iloadN X0.here hx rfl (hb hby dP_8) rfl ?_
        show Steps p.tables e below (s₁.setTop (mkF m 9 #[.val (.int p1)] [(.int p1)])) t
        refine XS.iconst X0.here hx rfl (hb hby dP_9) ?_
        exact k)
    by_cases hc10 : p1 = (1 : Int32)
    · have pre7 : Go p e below s₁ (mkF m 13 #[.val (.int p1)] []) s₁ (entryFrame m #[(.int p1)] 1) := fun t k => pre6 t (XS.icmpNo X0.here hx rfl (hb hby dP_10) rfl (teq hc10).2 k)
      obtain ⟨T8, X8, e8, st8⟩ := getS2 X0 hx hZ hown (host := "") (Or.inl (hw _ (List.mem_of_getElem? (i := 26) rfl))) Via.refl e0 S1 (g := (mkF m 13 #[.val (.int p1)] [])) rfl (hb hby dP_13)
      have pre9 : Go p e below T8 (mkF m 16 #[.val (.int p1)] [(.ref w1)]) s₁ (entryFrame m #[(.int p1)] 1) := fun t k => pre7 t (st8 t k)
      obtain ⟨fs, hr, hrun, hended, hW, hsame⟩ := X8.leave (v := some (.ref w1)) (fun h => by rw [Bd.returns] at h; cases h)
      refine ⟨_, _, pre9 _ (retOut X8 hx Bd.returns rfl (Or.inr (Or.inr (Or.inr (Or.inr ⟨rfl, rfl, rfl⟩)))) (hb hby dP_16) hr), hrun, hended, _, _, rfl, ?_, ⟨_, rfl⟩, hW, hsame.mono (by decide) (by decide)⟩
      show QP Z p1 w0 w1 w2 w3 w4 w5 w6 w7 w8 w9 w10 r h0 n0 _ T8.heap _
      rw [e8]
      exact ⟨by rw [← hR]; simp [pickF, hc1, hc10], N0, rfl⟩
    · have pre10 : Go p e below s₁ (mkF m 17 #[.val (.int p1)] []) s₁ (entryFrame m #[(.int p1)] 1) := fun t k => pre6 t (XS.icmpYes X0.here hx rfl (pc0 := 10) (pc' := 17) rfl (hb hby dP_10) rfl (feq hc10).2 (by decide) (by decide) k)
      have pre11 : Go p e below s₁ (mkF m 19 #[.val (.int p1)] [(.int (2 : Int32)), (.int p1)]) s₁ (entryFrame m #[(.int p1)] 1) := fun t k => pre10 t (by
          show Steps p.tables e below (s₁.setTop (mkF m 17 #[.val (.int p1)] [])) t
          refine XS.iloadN X0.here hx rfl (hb hby dP_17) rfl ?_
          show Steps p.tables e below (s₁.setTop (mkF m 18 #[.val (.int p1)] [(.int p1)])) t
          refine XS.iconst X0.here hx rfl (hb hby dP_18) ?_
          exact k)
      by_cases hc19 : p1 = (2 : Int32)
      · have pre12 : Go p e below s₁ (mkF m 22 #[.val (.int p1)] []) s₁ (entryFrame m #[(.int p1)] 1) := fun t k => pre11 t (XS.icmpNo X0.here hx rfl (hb hby dP_19) rfl (teq hc19).2 k)
        obtain ⟨T13, X13, e13, st13⟩ := getS2 X0 hx hZ hown (host := "") (Or.inl (hw _ (List.mem_of_getElem? (i := 23) rfl))) Via.refl e0 S2 (g := (mkF m 22 #[.val (.int p1)] [])) rfl (hb hby dP_22)
        have pre14 : Go p e below T13 (mkF m 25 #[.val (.int p1)] [(.ref w2)]) s₁ (entryFrame m #[(.int p1)] 1) := fun t k => pre12 t (st13 t k)
        obtain ⟨fs, hr, hrun, hended, hW, hsame⟩ := X13.leave (v := some (.ref w2)) (fun h => by rw [Bd.returns] at h; cases h)
        refine ⟨_, _, pre14 _ (retOut X13 hx Bd.returns rfl (Or.inr (Or.inr (Or.inr (Or.inr ⟨rfl, rfl, rfl⟩)))) (hb hby dP_25) hr), hrun, hended, _, _, rfl, ?_, ⟨_, rfl⟩, hW, hsame.mono (by decide) (by decide)⟩
        show QP Z p1 w0 w1 w2 w3 w4 w5 w6 w7 w8 w9 w10 r h0 n0 _ T13.heap _
        rw [e13]
        exact ⟨by rw [← hR]; simp [pickF, hc1, hc10, hc19], N0, rfl⟩
      · have pre15 : Go p e below s₁ (mkF m 26 #[.val (.int p1)] []) s₁ (entryFrame m #[(.int p1)] 1) := fun t k => pre11 t (XS.icmpYes X0.here hx rfl (pc0 := 19) (pc' := 26) rfl (hb hby dP_19) rfl (feq hc19).2 (by decide) (by decide) k)
        have pre16 : Go p e below s₁ (mkF m 28 #[.val (.int p1)] [(.int (3 : Int32)), (.int p1)]) s₁ (entryFrame m #[(.int p1)] 1) := fun t k => pre15 t (by
            show Steps p.tables e below (s₁.setTop (mkF m 26 #[.val (.int p1)] [])) t
            refine XS.iloadN X0.here hx rfl (hb hby dP_26) rfl ?_
            show Steps p.tables e below (s₁.setTop (mkF m 27 #[.val (.int p1)] [(.int p1)])) t
            refine XS.iconst X0.here hx rfl (hb hby dP_27) ?_
            exact k)
        by_cases hc28 : p1 = (3 : Int32)
        · have pre17 : Go p e below s₁ (mkF m 31 #[.val (.int p1)] []) s₁ (entryFrame m #[(.int p1)] 1) := fun t k => pre16 t (XS.icmpNo X0.here hx rfl (hb hby dP_28) rfl (teq hc28).2 k)
          obtain ⟨T18, X18, e18, st18⟩ := getS2 X0 hx hZ hown (host := "") (Or.inl (hw _ (List.mem_of_getElem? (i := 17) rfl))) Via.refl e0 S3 (g := (mkF m 31 #[.val (.int p1)] [])) rfl (hb hby dP_31)
          have pre19 : Go p e below T18 (mkF m 34 #[.val (.int p1)] [(.ref w3)]) s₁ (entryFrame m #[(.int p1)] 1) := fun t k => pre17 t (st18 t k)
          obtain ⟨fs, hr, hrun, hended, hW, hsame⟩ := X18.leave (v := some (.ref w3)) (fun h => by rw [Bd.returns] at h; cases h)
          refine ⟨_, _, pre19 _ (retOut X18 hx Bd.returns rfl (Or.inr (Or.inr (Or.inr (Or.inr ⟨rfl, rfl, rfl⟩)))) (hb hby dP_34) hr), hrun, hended, _, _, rfl, ?_, ⟨_, rfl⟩, hW, hsame.mono (by decide) (by decide)⟩
          show QP Z p1 w0 w1 w2 w3 w4 w5 w6 w7 w8 w9 w10 r h0 n0 _ T18.heap _
          rw [e18]
          exact ⟨by rw [← hR]; simp [pickF, hc1, hc10, hc19, hc28], N0, rfl⟩
        · have pre20 : Go p e below s₁ (mkF m 35 #[.val (.int p1)] []) s₁ (entryFrame m #[(.int p1)] 1) := fun t k => pre16 t (XS.icmpYes X0.here hx rfl (pc0 := 28) (pc' := 35) rfl (hb hby dP_28) rfl (feq hc28).2 (by decide) (by decide) k)
          have pre21 : Go p e below s₁ (mkF m 37 #[.val (.int p1)] [(.int (4 : Int32)), (.int p1)]) s₁ (entryFrame m #[(.int p1)] 1) := fun t k => pre20 t (by
              show Steps p.tables e below (s₁.setTop (mkF m 35 #[.val (.int p1)] [])) t
              refine XS.iloadN X0.here hx rfl (hb hby dP_35) rfl ?_
              show Steps p.tables e below (s₁.setTop (mkF m 36 #[.val (.int p1)] [(.int p1)])) t
              refine XS.iconst X0.here hx rfl (hb hby dP_36) ?_
              exact k)
          by_cases hc37 : p1 = (4 : Int32)
          · have pre22 : Go p e below s₁ (mkF m 40 #[.val (.int p1)] []) s₁ (entryFrame m #[(.int p1)] 1) := fun t k => pre21 t (XS.icmpNo X0.here hx rfl (hb hby dP_37) rfl (teq hc37).2 k)
            obtain ⟨T23, X23, e23, st23⟩ := getS2 X0 hx hZ hown (host := "") (Or.inl (hw _ (List.mem_of_getElem? (i := 33) rfl))) Via.refl e0 S4 (g := (mkF m 40 #[.val (.int p1)] [])) rfl (hb hby dP_40)
            have pre24 : Go p e below T23 (mkF m 43 #[.val (.int p1)] [(.ref w4)]) s₁ (entryFrame m #[(.int p1)] 1) := fun t k => pre22 t (st23 t k)
            obtain ⟨fs, hr, hrun, hended, hW, hsame⟩ := X23.leave (v := some (.ref w4)) (fun h => by rw [Bd.returns] at h; cases h)
            refine ⟨_, _, pre24 _ (retOut X23 hx Bd.returns rfl (Or.inr (Or.inr (Or.inr (Or.inr ⟨rfl, rfl, rfl⟩)))) (hb hby dP_43) hr), hrun, hended, _, _, rfl, ?_, ⟨_, rfl⟩, hW, hsame.mono (by decide) (by decide)⟩
            show QP Z p1 w0 w1 w2 w3 w4 w5 w6 w7 w8 w9 w10 r h0 n0 _ T23.heap _
            rw [e23]
            exact ⟨by rw [← hR]; simp [pickF, hc1, hc10, hc19, hc28, hc37], N0, rfl⟩
          · have pre25 : Go p e below s₁ (mkF m 44 #[.val (.int p1)] []) s₁ (entryFrame m #[(.int p1)] 1) := fun t k => pre21 t (XS.icmpYes X0.here hx rfl (pc0 := 37) (pc' := 44) rfl (hb hby dP_37) rfl (feq hc37).2 (by decide) (by decide) k)
            have pre26 : Go p e below s₁ (mkF m 46 #[.val (.int p1)] [(.int (5 : Int32)), (.int p1)]) s₁ (entryFrame m #[(.int p1)] 1) := fun t k => pre25 t (by
                show Steps p.tables e below (s₁.setTop (mkF m 44 #[.val (.int p1)] [])) t
                refine XS.iloadN X0.here hx rfl (hb hby dP_44) rfl ?_
                show Steps p.tables e below (s₁.setTop (mkF m 45 #[.val (.int p1)] [(.int p1)])) t
                refine XS.iconst X0.here hx rfl (hb hby dP_45) ?_
                exact k)
            by_cases hc46 : p1 = (5 : Int32)
            · have pre27 : Go p e below s₁ (mkF m 49 #[.val (.int p1)] []) s₁ (entryFrame m #[(.int p1)] 1) := fun t k => pre26 t (XS.icmpNo X0.here hx rfl (hb hby dP_46) rfl (teq hc46).2 k)
              obtain ⟨T28, X28, e28, st28⟩ := getS2 X0 hx hZ hown (host := "") (Or.inl (hw _ (List.mem_of_getElem? (i := 29) rfl))) Via.refl e0 S5 (g := (mkF m 49 #[.val (.int p1)] [])) rfl (hb hby dP_49)
              have pre29 : Go p e below T28 (mkF m 52 #[.val (.int p1)] [(.ref w5)]) s₁ (entryFrame m #[(.int p1)] 1) := fun t k => pre27 t (st28 t k)
              obtain ⟨fs, hr, hrun, hended, hW, hsame⟩ := X28.leave (v := some (.ref w5)) (fun h => by rw [Bd.returns] at h; cases h)
              refine ⟨_, _, pre29 _ (retOut X28 hx Bd.returns rfl (Or.inr (Or.inr (Or.inr (Or.inr ⟨rfl, rfl, rfl⟩)))) (hb hby dP_52) hr), hrun, hended, _, _, rfl, ?_, ⟨_, rfl⟩, hW, hsame.mono (by decide) (by decide)⟩
              show QP Z p1 w0 w1 w2 w3 w4 w5 w6 w7 w8 w9 w10 r h0 n0 _ T28.heap _
              rw [e28]
              exact ⟨by rw [← hR]; simp [pickF, hc1, hc10, hc19, hc28, hc37, hc46], N0, rfl⟩
            · have pre30 : Go p e below s₁ (mkF m 53 #[.val (.int p1)] []) s₁ (entryFrame m #[(.int p1)] 1) := fun t k => pre26 t (XS.icmpYes X0.here hx rfl (pc0 := 46) (pc' := 53) rfl (hb hby dP_46) rfl (feq hc46).2 (by decide) (by decide) k)
              have pre31 : Go p e below s₁ (mkF m 56 #[.val (.int p1)] [(.int (6 : Int32)), (.int p1)]) s₁ (entryFrame m #[(.int p1)] 1) := fun t k => pre30 t (by
                  show Steps p.tables e below (s₁.setTop (mkF m 53 #[.val (.int p1)] [])) t
                  refine XS.iloadN X0.here hx rfl (hb hby dP_53) rfl ?_
                  show Steps p.tables e below (s₁.setTop (mkF m 54 #[.val (.int p1)] [(.int p1)])) t
                  refine XS.bipush X0.here hx rfl (hb hby dP_54) ?_
                  exact k)
              by_cases hc56 : p1 = (6 : Int32)
              · have pre32 : Go p e below s₁ (mkF m 59 #[.val (.int p1)] []) s₁ (entryFrame m #[(.int p1)] 1) := fun t k => pre31 t (XS.icmpNo X0.here hx rfl (hb hby dP_56) rfl (teq hc56).2 k)
                obtain ⟨T33, X33, e33, st33⟩ := getS2 X0 hx hZ hown (host := "") (Or.inl (hw _ (List.mem_of_getElem? (i := 31) rfl))) Via.refl e0 S6 (g := (mkF m 59 #[.val (.int p1)] [])) rfl (hb hby dP_59)
                have pre34 : Go p e below T33 (mkF m 62 #[.val (.int p1)] [(.ref w6)]) s₁ (entryFrame m #[(.int p1)] 1) := fun t k => pre32 t (st33 t k)
                obtain ⟨fs, hr, hrun, hended, hW, hsame⟩ := X33.leave (v := some (.ref w6)) (fun h => by rw [Bd.returns] at h; cases h)
                refine ⟨_, _, pre34 _ (retOut X33 hx Bd.returns rfl (Or.inr (Or.inr (Or.inr (Or.inr ⟨rfl, rfl, rfl⟩)))) (hb hby dP_62) hr), hrun, hended, _, _, rfl, ?_, ⟨_, rfl⟩, hW, hsame.mono (by decide) (by decide)⟩
                show QP Z p1 w0 w1 w2 w3 w4 w5 w6 w7 w8 w9 w10 r h0 n0 _ T33.heap _
                rw [e33]
                exact ⟨by rw [← hR]; simp [pickF, hc1, hc10, hc19, hc28, hc37, hc46, hc56], N0, rfl⟩
              · have pre35 : Go p e below s₁ (mkF m 63 #[.val (.int p1)] []) s₁ (entryFrame m #[(.int p1)] 1) := fun t k => pre31 t (XS.icmpYes X0.here hx rfl (pc0 := 56) (pc' := 63) rfl (hb hby dP_56) rfl (feq hc56).2 (by decide) (by decide) k)
                have pre36 : Go p e below s₁ (mkF m 66 #[.val (.int p1)] [(.int (7 : Int32)), (.int p1)]) s₁ (entryFrame m #[(.int p1)] 1) := fun t k => pre35 t (by
                    show Steps p.tables e below (s₁.setTop (mkF m 63 #[.val (.int p1)] [])) t
                    refine XS.iloadN X0.here hx rfl (hb hby dP_63) rfl ?_
                    show Steps p.tables e below (s₁.setTop (mkF m 64 #[.val (.int p1)] [(.int p1)])) t
                    refine XS.bipush X0.here hx rfl (hb hby dP_64) ?_
                    exact k)
                by_cases hc66 : p1 = (7 : Int32)
                · have pre37 : Go p e below s₁ (mkF m 69 #[.val (.int p1)] []) s₁ (entryFrame m #[(.int p1)] 1) := fun t k => pre36 t (XS.icmpNo X0.here hx rfl (hb hby dP_66) rfl (teq hc66).2 k)
                  obtain ⟨T38, X38, e38, st38⟩ := getS2 X0 hx hZ hown (host := "") (Or.inl (hw _ (List.mem_of_getElem? (i := 19) rfl))) Via.refl e0 S7 (g := (mkF m 69 #[.val (.int p1)] [])) rfl (hb hby dP_69)
                  have pre39 : Go p e below T38 (mkF m 72 #[.val (.int p1)] [(.ref w7)]) s₁ (entryFrame m #[(.int p1)] 1) := fun t k => pre37 t (st38 t k)
                  obtain ⟨fs, hr, hrun, hended, hW, hsame⟩ := X38.leave (v := some (.ref w7)) (fun h => by rw [Bd.returns] at h; cases h)
                  refine ⟨_, _, pre39 _ (retOut X38 hx Bd.returns rfl (Or.inr (Or.inr (Or.inr (Or.inr ⟨rfl, rfl, rfl⟩)))) (hb hby dP_72) hr), hrun, hended, _, _, rfl, ?_, ⟨_, rfl⟩, hW, hsame.mono (by decide) (by decide)⟩
                  show QP Z p1 w0 w1 w2 w3 w4 w5 w6 w7 w8 w9 w10 r h0 n0 _ T38.heap _
                  rw [e38]
                  exact ⟨by rw [← hR]; simp [pickF, hc1, hc10, hc19, hc28, hc37, hc46, hc56, hc66], N0, rfl⟩
                · have pre40 : Go p e below s₁ (mkF m 73 #[.val (.int p1)] []) s₁ (entryFrame m #[(.int p1)] 1) := fun t k => pre36 t (XS.icmpYes X0.here hx rfl (pc0 := 66) (pc' := 73) rfl (hb hby dP_66) rfl (feq hc66).2 (by decide) (by decide) k)
                  have pre41 : Go p e below s₁ (mkF m 76 #[.val (.int p1)] [(.int (8 : Int32)), (.int p1)]) s₁ (entryFrame m #[(.int p1)] 1) := fun t k => pre40 t (by
                      show Steps p.tables e below (s₁.setTop (mkF m 73 #[.val (.int p1)] [])) t
                      refine XS.iloadN X0.here hx rfl (hb hby dP_73) rfl ?_
                      show Steps p.tables e below (s₁.setTop (mkF m 74 #[.val (.int p1)] [(.int p1)])) t
                      refine XS.bipush X0.here hx rfl (hb hby dP_74) ?_
                      exact k)
                  by_cases hc76 : p1 = (8 : Int32)
                  · have pre42 : Go p e below s₁ (mkF m 79 #[.val (.int p1)] []) s₁ (entryFrame m #[(.int p1)] 1) := fun t k => pre41 t (XS.icmpNo X0.here hx rfl (hb hby dP_76) rfl (teq hc76).2 k)
                    obtain ⟨T43, X43, e43, st43⟩ := getS2 X0 hx hZ hown (host := "") (Or.inl (hw _ (List.mem_of_getElem? (i := 21) rfl))) Via.refl e0 S8 (g := (mkF m 79 #[.val (.int p1)] [])) rfl (hb hby dP_79)
                    have pre44 : Go p e below T43 (mkF m 82 #[.val (.int p1)] [(.ref w8)]) s₁ (entryFrame m #[(.int p1)] 1) := fun t k => pre42 t (st43 t k)
                    obtain ⟨fs, hr, hrun, hended, hW, hsame⟩ := X43.leave (v := some (.ref w8)) (fun h => by rw [Bd.returns] at h; cases h)
                    refine ⟨_, _, pre44 _ (retOut X43 hx Bd.returns rfl (Or.inr (Or.inr (Or.inr (Or.inr ⟨rfl, rfl, rfl⟩)))) (hb hby dP_82) hr), hrun, hended, _, _, rfl, ?_, ⟨_, rfl⟩, hW, hsame.mono (by decide) (by decide)⟩
                    show QP Z p1 w0 w1 w2 w3 w4 w5 w6 w7 w8 w9 w10 r h0 n0 _ T43.heap _
                    rw [e43]
                    exact ⟨by rw [← hR]; simp [pickF, hc1, hc10, hc19, hc28, hc37, hc46, hc56, hc66, hc76], N0, rfl⟩
                  · have pre45 : Go p e below s₁ (mkF m 83 #[.val (.int p1)] []) s₁ (entryFrame m #[(.int p1)] 1) := fun t k => pre41 t (XS.icmpYes X0.here hx rfl (pc0 := 76) (pc' := 83) rfl (hb hby dP_76) rfl (feq hc76).2 (by decide) (by decide) k)
                    have pre46 : Go p e below s₁ (mkF m 86 #[.val (.int p1)] [(.int (9 : Int32)), (.int p1)]) s₁ (entryFrame m #[(.int p1)] 1) := fun t k => pre45 t (by
                        show Steps p.tables e below (s₁.setTop (mkF m 83 #[.val (.int p1)] [])) t
                        refine XS.iloadN X0.here hx rfl (hb hby dP_83) rfl ?_
                        show Steps p.tables e below (s₁.setTop (mkF m 84 #[.val (.int p1)] [(.int p1)])) t
                        refine XS.bipush X0.here hx rfl (hb hby dP_84) ?_
                        exact k)
                    by_cases hc86 : p1 = (9 : Int32)
                    · have pre47 : Go p e below s₁ (mkF m 89 #[.val (.int p1)] []) s₁ (entryFrame m #[(.int p1)] 1) := fun t k => pre46 t (XS.icmpNo X0.here hx rfl (hb hby dP_86) rfl (teq hc86).2 k)
                      obtain ⟨T48, X48, e48, st48⟩ := getS2 X0 hx hZ hown (host := "") (Or.inl (hw _ (List.mem_of_getElem? (i := 28) rfl))) Via.refl e0 S9 (g := (mkF m 89 #[.val (.int p1)] [])) rfl (hb hby dP_89)
                      have pre49 : Go p e below T48 (mkF m 92 #[.val (.int p1)] [(.ref w9)]) s₁ (entryFrame m #[(.int p1)] 1) := fun t k => pre47 t (st48 t k)
                      obtain ⟨fs, hr, hrun, hended, hW, hsame⟩ := X48.leave (v := some (.ref w9)) (fun h => by rw [Bd.returns] at h; cases h)
                      refine ⟨_, _, pre49 _ (retOut X48 hx Bd.returns rfl (Or.inr (Or.inr (Or.inr (Or.inr ⟨rfl, rfl, rfl⟩)))) (hb hby dP_92) hr), hrun, hended, _, _, rfl, ?_, ⟨_, rfl⟩, hW, hsame.mono (by decide) (by decide)⟩
                      show QP Z p1 w0 w1 w2 w3 w4 w5 w6 w7 w8 w9 w10 r h0 n0 _ T48.heap _
                      rw [e48]
                      exact ⟨by rw [← hR]; simp [pickF, hc1, hc10, hc19, hc28, hc37, hc46, hc56, hc66, hc76, hc86], N0, rfl⟩
                    · have pre50 : Go p e below s₁ (mkF m 93 #[.val (.int p1)] []) s₁ (entryFrame m #[(.int p1)] 1) := fun t k => pre46 t (XS.icmpYes X0.here hx rfl (pc0 := 86) (pc' := 93) rfl (hb hby dP_86) rfl (feq hc86).2 (by decide) (by decide) k)
                      obtain ⟨T51, X51, e51, st51⟩ := getS2 X0 hx hZ hown (host := "") (Or.inl (hw _ (List.mem_of_getElem? (i := 25) rfl))) Via.refl e0 S10 (g := (mkF m 93 #[.val (.int p1)] [])) rfl (hb hby dP_93)
                      have pre52 : Go p e below T51 (mkF m 96 #[.val (.int p1)] [(.ref w10)]) s₁ (entryFrame m #[(.int p1)] 1) := fun t k => pre50 t (st51 t k)
                      obtain ⟨fs, hr, hrun, hended, hW, hsame⟩ := X51.leave (v := some (.ref w10)) (fun h => by rw [Bd.returns] at h; cases h)
                      refine ⟨_, _, pre52 _ (retOut X51 hx Bd.returns rfl (Or.inr (Or.inr (Or.inr (Or.inr ⟨rfl, rfl, rfl⟩)))) (hb hby dP_96) hr), hrun, hended, _, _, rfl, ?_, ⟨_, rfl⟩, hW, hsame.mono (by decide) (by decide)⟩
                      show QP Z p1 w0 w1 w2 w3 w4 w5 w6 w7 w8 w9 w10 r h0 n0 _ T51.heap _
                      rw [e51]
                      exact ⟨by rw [← hR]; simp [pickF, hc1, hc10, hc19, hc28, hc37, hc46, hc56, hc66, hc76, hc86], N0, rfl⟩
theorem dF_0 : decode prog_25_method_6_code 0 = .ok (.aload_n 0, 1) := by decide +kernel
theorem dF_1 : decode prog_25_method_6_code 1 = .ok (.getstatic 31, 3) := by decide +kernel
theorem dF_4 : decode prog_25_method_6_code 4 = .ok (.if_acmp .eq 10, 3) := by decide +kernel
theorem dF_7 : decode prog_25_method_6_code 7 = .ok (.aload_n 0, 1) := by decide +kernel
theorem dF_8 : decode prog_25_method_6_code 8 = .ok (.getstatic 34, 3) := by decide +kernel
theorem dF_11 : decode prog_25_method_6_code 11 = .ok (.if_acmp .ne 7, 3) := by decide +kernel
theorem dF_14 : decode prog_25_method_6_code 14 = .ok (.iconst 1, 1) := by decide +kernel
theorem dF_15 : decode prog_25_method_6_code 15 = .ok (.goto 4, 3) := by decide +kernel
theorem dF_18 : decode prog_25_method_6_code 18 = .ok (.iconst 0, 1) := by decide +kernel
theorem dF_19 : decode prog_25_method_6_code 19 = .ok (.ireturn, 1) := by decide +kernel
theorem pnF : plainName "com/example/tiro/tiro/vault/DataType" = true := by first | (simp [plainName, overriddenIn]; done) | decide +kernel
theorem efF (m : MethodId) (a1 : Addr) : entryFrame m #[(.ref a1)] 1 = mkF m 0 #[.val (.ref a1)] [] := by first | (simp [entryFrame, mkF, argsToLocals, Value.category]; done) | rfl
def QF (Z : State) (a1 : Addr) (w9 : Addr) (w10 : Addr) (r : Int32) (h0 : Heap) (n0 : Nat) (v : Option Value) (h : Heap) (L : List Loc) : Prop := v = some (.int r) ∧ Fr n0 L ∧ h = h0
set_option maxRecDepth 65536 in
set_option maxHeartbeats 40000000 in
theorem rmF (l : Launch) (Z : State) (a0 : Array Value) (hw : ∀ d ∈ tables_1, d.before a0 Z = true) (ws : List Jvm.Cond) (a1 : Addr) (w9 : Addr) (w10 : Addr) (r : Int32) (h0 : Heap) (n0 : Nat) (Z0 : n0 ≤ h0.size) (S9 : Sta Z h0 "com/example/tiro/tiro/vault/DataType" "LOOKUP" "Lcom/example/tiro/tiro/vault/DataType;" (.ref w9)) (S10 : Sta Z h0 "com/example/tiro/tiro/vault/DataType" "MULTI_SELECT_LOOKUP" "Lcom/example/tiro/tiro/vault/DataType;" (.ref w10)) (hR : testF a1 w9 w10 = r) :
    MetFree l (⟨"com/example/tiro/tiro/vault/DataType", "isLookup", "()Z"⟩ : MethodName) (head1 (Jvm.Cond.code (⟨"com/example/tiro/tiro/vault/DataType", "isLookup", "()Z"⟩ : MethodName) prog_25_method_6_code 1 (some .boolean) :: ws) ({ frames := 0, cells := 0, slots := 0, locals := 0 } : Room)) (fun a U => a = #[(.ref a1)] ∧ Z.Warmed39 U.vm ∧ U.heap = h0) (fun _ _ _ _ _ => True) (fun _ U o U' => ∃ v L, o = .returned v ∧ QF Z a1 w9 w10 r h0 n0 v U'.heap L ∧ FrameEnd U o U' L ({ frames := 0, cells := 0, slots := 0, locals := 0 } : Room).cells ({ frames := 0, cells := 0, slots := 0, locals := 0 } : Room).slots) := by
  refine MetFree.of_bodySF (plainFor_of_name pnF) hisR ?_
  intro p e s m args below meth c s₁ Bd hml0 hP hK
  obtain ⟨rfl, hZ, hh⟩ := hP
  have hx := Bd.exec
  have hby := Bd.bytes
  have hml : c.maxLocals = 1 := hml0
  have hown : s.vm.findClass "com/example/tiro/tiro/vault/DataType" = some m.cls := findClass_of_methodNamed Bd.named
  have hnm := (name_of_methodNamed Bd.named Bd.method).1
  have X0 : Stand p l e ({ frames := 0, cells := 0, slots := 0, locals := 0 } : Room) s m #[(.ref a1)] below meth c s₁ [] 0 0 := Stand.of_body Bd
  have e0 : s₁.heap = h0 := by rw [← hh, Bd.state]; rfl
  have N0 := Fr.nil n0
  have pre0 : Go p e below s₁ (mkF m 0 #[.val (.ref a1)] []) s₁ (entryFrame m #[(.ref a1)] 1) := fun t k => castTop (efF m a1) k
  have pre1 : Go p e below s₁ (mkF m 1 #[.val (.ref a1)] [(.ref a1)]) s₁ (entryFrame m #[(.ref a1)] 1) := fun t k => pre0 t (by
      show Steps p.tables e below (s₁.setTop (mkF m 0 #[.val (.ref a1)] [])) t
      refine XS.aloadN X0.here hx rfl (hb hby dF_0) rfl rfl ?_
      exact k)
  obtain ⟨T2, X2, e2, st2⟩ := getS2 X0 hx hZ hown (host := "") (Or.inl (hw _ (List.mem_of_getElem? (i := 13) rfl))) Via.refl e0 S9 (g := (mkF m 1 #[.val (.ref a1)] [(.ref a1)])) rfl (hb hby dF_1)
  have pre3 : Go p e below T2 (mkF m 4 #[.val (.ref a1)] [(.ref w9), (.ref a1)]) s₁ (entryFrame m #[(.ref a1)] 1) := fun t k => pre1 t (st2 t k)
  by_cases ha4 : a1 = w9
  · have pre4 : Go p e below T2 (mkF m 14 #[.val (.ref a1)] []) s₁ (entryFrame m #[(.ref a1)] 1) := fun t k => pre3 t (Jvm.RoadKit.acmp (g := (mkF m 4 #[.val (.ref a1)] [(.ref w9), (.ref a1)])) X2 hx rfl rfl rfl (pc0 := 4) (pc' := 14) (same := true) rfl (hb hby dF_4) rfl (decide_eq_true (congrArg Value.ref ha4)) (by decide) (by decide) k)
    have pre5 : Go p e below T2 (mkF m 19 #[.val (.ref a1)] [(.int (1 : Int32))]) s₁ (entryFrame m #[(.ref a1)] 1) := fun t k => pre4 t (by
        show Steps p.tables e below (T2.setTop (mkF m 14 #[.val (.ref a1)] [])) t
        refine XS.iconst X2.here hx rfl (hb hby dF_14) ?_
        show Steps p.tables e below (T2.setTop (mkF m 15 #[.val (.ref a1)] [(.int (1 : Int32))])) t
        refine XS.goto X2.here hx rfl (pc0 := 15) (pc' := 19) rfl (hb hby dF_15) (by decide) (by decide) ?_
        exact k)
    have hnr : Value.int (nar .boolean (1 : Int32)) = (.int (1 : Int32)) := by rfl
    obtain ⟨fs, hr, hrun, hended, hW, hsame⟩ := X2.leave (v := some (.int (1 : Int32))) (fun h => by rw [Bd.returns] at h; cases h)
    refine ⟨_, _, pre5 _ (retN X2 hx (t := .boolean) Bd.returns (by simp) (hb hby dF_19) (hnr ▸ hr)), hrun, hended, _, _, rfl, ?_, ⟨_, rfl⟩, hW, hsame.mono (by decide) (by decide)⟩
    show QF Z a1 w9 w10 r h0 n0 _ T2.heap _
    rw [e2]
    exact ⟨by rw [← hR]; simp [testF, ha4], N0, rfl⟩
  · have pre6 : Go p e below T2 (mkF m 7 #[.val (.ref a1)] []) s₁ (entryFrame m #[(.ref a1)] 1) := fun t k => pre3 t (Jvm.RoadKit.acmp (g := (mkF m 4 #[.val (.ref a1)] [(.ref w9), (.ref a1)])) X2 hx rfl rfl rfl (pc0 := 4) (pc' := 7) (same := false) rfl (hb hby dF_4) rfl (decide_eq_false fun q => ha4 (Value.ref.inj q)) (by decide) (by decide) k)
    have pre7 : Go p e below T2 (mkF m 8 #[.val (.ref a1)] [(.ref a1)]) s₁ (entryFrame m #[(.ref a1)] 1) := fun t k => pre6 t (by
        show Steps p.tables e below (T2.setTop (mkF m 7 #[.val (.ref a1)] [])) t
        refine XS.aloadN X2.here hx rfl (hb hby dF_7) rfl rfl ?_
        exact k)
    obtain ⟨T8, X8, e8, st8⟩ := getS2 X2 hx hZ hown (host := "") (Or.inl (hw _ (List.mem_of_getElem? (i := 15) rfl))) Via.refl e2 S10 (g := (mkF m 8 #[.val (.ref a1)] [(.ref a1)])) rfl (hb hby dF_8)
    have pre9 : Go p e below T8 (mkF m 11 #[.val (.ref a1)] [(.ref w10), (.ref a1)]) s₁ (entryFrame m #[(.ref a1)] 1) := fun t k => pre7 t (st8 t k)
    by_cases ha11 : a1 = w10
    · have pre10 : Go p e below T8 (mkF m 14 #[.val (.ref a1)] []) s₁ (entryFrame m #[(.ref a1)] 1) := fun t k => pre9 t (Jvm.RoadKit.acmp (g := (mkF m 11 #[.val (.ref a1)] [(.ref w10), (.ref a1)])) X8 hx rfl rfl rfl (pc0 := 11) (pc' := 14) (same := true) rfl (hb hby dF_11) rfl (decide_eq_true (congrArg Value.ref ha11)) (by decide) (by decide) k)
      have pre11 : Go p e below T8 (mkF m 19 #[.val (.ref a1)] [(.int (1 : Int32))]) s₁ (entryFrame m #[(.ref a1)] 1) := fun t k => pre10 t (by
          show Steps p.tables e below (T8.setTop (mkF m 14 #[.val (.ref a1)] [])) t
          refine XS.iconst X8.here hx rfl (hb hby dF_14) ?_
          show Steps p.tables e below (T8.setTop (mkF m 15 #[.val (.ref a1)] [(.int (1 : Int32))])) t
          refine XS.goto X8.here hx rfl (pc0 := 15) (pc' := 19) rfl (hb hby dF_15) (by decide) (by decide) ?_
          exact k)
      have hnr : Value.int (nar .boolean (1 : Int32)) = (.int (1 : Int32)) := by rfl
      obtain ⟨fs, hr, hrun, hended, hW, hsame⟩ := X8.leave (v := some (.int (1 : Int32))) (fun h => by rw [Bd.returns] at h; cases h)
      refine ⟨_, _, pre11 _ (retN X8 hx (t := .boolean) Bd.returns (by simp) (hb hby dF_19) (hnr ▸ hr)), hrun, hended, _, _, rfl, ?_, ⟨_, rfl⟩, hW, hsame.mono (by decide) (by decide)⟩
      show QF Z a1 w9 w10 r h0 n0 _ T8.heap _
      rw [e8]
      exact ⟨by rw [← hR]; simp [testF, ha4, ha11], N0, rfl⟩
    · have pre12 : Go p e below T8 (mkF m 18 #[.val (.ref a1)] []) s₁ (entryFrame m #[(.ref a1)] 1) := fun t k => pre9 t (Jvm.RoadKit.acmp (g := (mkF m 11 #[.val (.ref a1)] [(.ref w10), (.ref a1)])) X8 hx rfl rfl rfl (pc0 := 11) (pc' := 18) (same := false) rfl (hb hby dF_11) rfl (decide_eq_false fun q => ha11 (Value.ref.inj q)) (by decide) (by decide) k)
      have pre13 : Go p e below T8 (mkF m 19 #[.val (.ref a1)] [(.int (0 : Int32))]) s₁ (entryFrame m #[(.ref a1)] 1) := fun t k => pre12 t (by
          show Steps p.tables e below (T8.setTop (mkF m 18 #[.val (.ref a1)] [])) t
          refine XS.iconst X8.here hx rfl (hb hby dF_18) ?_
          exact k)
      have hnr : Value.int (nar .boolean (0 : Int32)) = (.int (0 : Int32)) := by rfl
      obtain ⟨fs, hr, hrun, hended, hW, hsame⟩ := X8.leave (v := some (.int (0 : Int32))) (fun h => by rw [Bd.returns] at h; cases h)
      refine ⟨_, _, pre13 _ (retN X8 hx (t := .boolean) Bd.returns (by simp) (hb hby dF_19) (hnr ▸ hr)), hrun, hended, _, _, rfl, ?_, ⟨_, rfl⟩, hW, hsame.mono (by decide) (by decide)⟩
      show QF Z a1 w9 w10 r h0 n0 _ T8.heap _
      rw [e8]
      exact ⟨by rw [← hR]; simp [testF, ha4, ha11], N0, rfl⟩
theorem pnL : plainName "com/example/tiro/tiro/vault/DataTypeIsLookupPinLaw" = true := by first | (simp [plainName, overriddenIn]; done) | decide +kernel
theorem pdL_0 : parseMethodDescriptor "(I)Lcom/example/tiro/tiro/vault/DataType;" = some ⟨[.int], some (.object "com/example/tiro/tiro/vault/DataType")⟩ := by decide +kernel
theorem pdL_1 : parseMethodDescriptor "()Z" = some ⟨[], some .boolean⟩ := by decide +kernel
theorem efL (m : MethodId) (p1 : Int32) : entryFrame m #[(.int p1)] maxLocals = mkF m 0 #[.val (.int p1), .unset, .unset, .unset] [] := by first | (simp [entryFrame, mkF, argsToLocals, Value.category, maxLocals]; done) | rfl
def QL (Z : State) (p1 : Int32) (w0 : Addr) (w1 : Addr) (w2 : Addr) (w3 : Addr) (w4 : Addr) (w5 : Addr) (w6 : Addr) (w7 : Addr) (w8 : Addr) (w9 : Addr) (w10 : Addr) (h0 : Heap) (n0 : Nat) (v : Option Value) (h : Heap) (L : List Loc) : Prop := v = some (.int 1) ∧ Fr n0 L
set_option maxRecDepth 65536 in
set_option maxHeartbeats 40000000 in
theorem rmL (l : Launch) (Z : State) (a0 : Array Value) (hw : ∀ d ∈ tables_1, d.before a0 Z = true) (ws : List Jvm.Cond) (p1 : Int32) (w0 : Addr) (w1 : Addr) (w2 : Addr) (w3 : Addr) (w4 : Addr) (w5 : Addr) (w6 : Addr) (w7 : Addr) (w8 : Addr) (w9 : Addr) (w10 : Addr) (h0 : Heap) (n0 : Nat) (Z0 : n0 ≤ h0.size) (S0 : Sta Z h0 "com/example/tiro/tiro/vault/DataType" "TEXT" "Lcom/example/tiro/tiro/vault/DataType;" (.ref w0)) (S1 : Sta Z h0 "com/example/tiro/tiro/vault/DataType" "MULTILINE_TEXT" "Lcom/example/tiro/tiro/vault/DataType;" (.ref w1)) (S2 : Sta Z h0 "com/example/tiro/tiro/vault/DataType" "INTEGER" "Lcom/example/tiro/tiro/vault/DataType;" (.ref w2)) (S3 : Sta Z h0 "com/example/tiro/tiro/vault/DataType" "INTEGER64" "Lcom/example/tiro/tiro/vault/DataType;" (.ref w3)) (S4 : Sta Z h0 "com/example/tiro/tiro/vault/DataType" "REAL" "Lcom/example/tiro/tiro/vault/DataType;" (.ref w4)) (S5 : Sta Z h0 "com/example/tiro/tiro/vault/DataType" "DATE" "Lcom/example/tiro/tiro/vault/DataType;" (.ref w5)) (S6 : Sta Z h0 "com/example/tiro/tiro/vault/DataType" "TIME" "Lcom/example/tiro/tiro/vault/DataType;" (.ref w6)) (S7 : Sta Z h0 "com/example/tiro/tiro/vault/DataType" "TIMESTAMP" "Lcom/example/tiro/tiro/vault/DataType;" (.ref w7)) (S8 : Sta Z h0 "com/example/tiro/tiro/vault/DataType" "BOOLEAN" "Lcom/example/tiro/tiro/vault/DataType;" (.ref w8)) (S9 : Sta Z h0 "com/example/tiro/tiro/vault/DataType" "LOOKUP" "Lcom/example/tiro/tiro/vault/DataType;" (.ref w9)) (S10 : Sta Z h0 "com/example/tiro/tiro/vault/DataType" "MULTI_SELECT_LOOKUP" "Lcom/example/tiro/tiro/vault/DataType;" (.ref w10)) (E0 : Exa Z h0 w0 "com/example/tiro/tiro/vault/DataType") (E1 : Exa Z h0 w1 "com/example/tiro/tiro/vault/DataType") (E2 : Exa Z h0 w2 "com/example/tiro/tiro/vault/DataType") (E3 : Exa Z h0 w3 "com/example/tiro/tiro/vault/DataType") (E4 : Exa Z h0 w4 "com/example/tiro/tiro/vault/DataType") (E5 : Exa Z h0 w5 "com/example/tiro/tiro/vault/DataType") (E6 : Exa Z h0 w6 "com/example/tiro/tiro/vault/DataType") (E7 : Exa Z h0 w7 "com/example/tiro/tiro/vault/DataType") (E8 : Exa Z h0 w8 "com/example/tiro/tiro/vault/DataType") (E9 : Exa Z h0 w9 "com/example/tiro/tiro/vault/DataType") (E10 : Exa Z h0 w10 "com/example/tiro/tiro/vault/DataType") (d0_9 : w0 ≠ w9) (d0_10 : w0 ≠ w10) (d1_9 : w1 ≠ w9) (d1_10 : w1 ≠ w10) (d2_9 : w2 ≠ w9) (d2_10 : w2 ≠ w10) (d3_9 : w3 ≠ w9) (d3_10 : w3 ≠ w10) (d4_9 : w4 ≠ w9) (d4_10 : w4 ≠ w10) (d5_9 : w5 ≠ w9) (d5_10 : w5 ≠ w10) (d6_9 : w6 ≠ w9) (d6_10 : w6 ≠ w10) (d7_9 : w7 ≠ w9) (d7_10 : w7 ≠ w10) (d8_9 : w8 ≠ w9) (d8_10 : w8 ≠ w10) :
    MetFree l x (head1 (Jvm.Cond.code x code maxLocals ret :: ws) room_1) (fun a U => a = #[(.int p1)] ∧ Z.Warmed39 U.vm ∧ U.heap = h0) (fun _ _ _ _ _ => True) (fun _ U o U' => ∃ v L, o = .returned v ∧ QL Z p1 w0 w1 w2 w3 w4 w5 w6 w7 w8 w9 w10 h0 n0 v U'.heap L ∧ FrameEnd U o U' L room_1.cells room_1.slots) := by
  refine MetFree.of_bodySF (plainFor_of_name pnL) hisR ?_
  intro p e s m args below meth c s₁ Bd hml0 hP hK
  obtain ⟨rfl, hZ, hh⟩ := hP
  have hx := Bd.exec
  have hby := Bd.bytes
  have hml : c.maxLocals = 4 := hml0
  have hown : s.vm.findClass "com/example/tiro/tiro/vault/DataTypeIsLookupPinLaw" = some m.cls := findClass_of_methodNamed Bd.named
  have hnm := (name_of_methodNamed Bd.named Bd.method).1
  have X0 : Stand p l e room_1 s m #[(.int p1)] below meth c s₁ [] 0 0 := Stand.of_body Bd
  have e0 : s₁.heap = h0 := by rw [← hh, Bd.state]; rfl
  have N0 := Fr.nil n0
  have pre0 : Go p e below s₁ (mkF m 0 #[.val (.int p1), .unset, .unset, .unset] []) s₁ (entryFrame m #[(.int p1)] maxLocals) := fun t k => castTop (efL m p1) k
  have pre1 : Go p e below s₁ (mkF m 7 #[.val (.int p1), .unset, .unset, .unset] [(.int ((p1 &&& (2147483647 : Int32)) % (11 : Int32)))]) s₁ (entryFrame m #[(.int p1)] maxLocals) := fun t k => pre0 t (by
      show Steps p.tables e below (s₁.setTop (mkF m 0 #[.val (.int p1), .unset, .unset, .unset] [])) t
      refine XS.iloadN X0.here hx rfl (hb hby at_0) rfl ?_
      show Steps p.tables e below (s₁.setTop (mkF m 1 #[.val (.int p1), .unset, .unset, .unset] [(.int p1)])) t
      refine X0.ldcInt hx hown (mvT hZ (hw _ (List.mem_of_getElem? (i := 0) rfl))) (g := (mkF m 1 #[.val (.int p1), .unset, .unset, .unset] [(.int p1)])) rfl (hb hby at_1) _ ?_
      show Steps p.tables e below (s₁.setTop (mkF m 3 #[.val (.int p1), .unset, .unset, .unset] [(.int (2147483647 : Int32)), (.int p1)])) t
      refine XS.iand X0.here hx rfl (hb hby at_3) rfl ?_
      show Steps p.tables e below (s₁.setTop (mkF m 4 #[.val (.int p1), .unset, .unset, .unset] [(.int (p1 &&& (2147483647 : Int32)))])) t
      refine XS.bipush X0.here hx rfl (hb hby at_4) ?_
      show Steps p.tables e below (s₁.setTop (mkF m 6 #[.val (.int p1), .unset, .unset, .unset] [(.int (11 : Int32)), (.int (p1 &&& (2147483647 : Int32)))])) t
      refine iremM X0 hx rfl (hb hby at_6) rfl (by decide) ?_
      exact k)
  rcases own_m11 p1 with hv2_0 | hv2_1 | hv2_2 | hv2_3 | hv2_4 | hv2_5 | hv2_6 | hv2_7 | hv2_8 | hv2_9 | hv2_10
  · have pre3 : Go p e below s₁ (mkF m 9 #[.val (.int p1), .val (.int (0 : Int32)), .unset, .unset] [(.int (0 : Int32))]) s₁ (entryFrame m #[(.int p1)] maxLocals) := fun t k => pre1 t (by
        show Steps p.tables e below (s₁.setTop (mkF m 7 #[.val (.int p1), .unset, .unset, .unset] [(.int ((p1 &&& (2147483647 : Int32)) % (11 : Int32)))])) t
        refine XS.istoreN X0.here hx rfl (hb hby at_7) rfl (l' := #[.val (.int p1), .val (.int (0 : Int32)), .unset, .unset]) (by rw [hv2_0]; rfl) ?_
        show Steps p.tables e below (s₁.setTop (mkF m 8 #[.val (.int p1), .val (.int (0 : Int32)), .unset, .unset] [])) t
        refine XS.iloadN X0.here hx rfl (hb hby at_8) rfl ?_
        exact k)
    obtain ⟨_, _, ⟨T4, L4, k4, n4⟩, -, X4, ⟨Lc4, hQ4, l4, y4, z4⟩, st4⟩ := Jvm.LawKit.callS X0 hx (y := (⟨"com/example/tiro/tiro/vault/DataTypeIsLookupPinLaw", "pick", "(I)Lcom/example/tiro/tiro/vault/DataType;"⟩ : MethodName)) hown (mvT hZ (hw _ (List.mem_of_getElem? (i := 1) rfl))) (mvT hZ (hw _ (List.mem_of_getElem? (i := 2) rfl))) (mvT hZ (hw _ (List.mem_of_getElem? (i := 3) rfl))) (mvT hZ (hw _ (List.mem_of_getElem? (i := 4) rfl))) (by decide) (backOf (W := 0) (rmP l Z a0 hw [] (0 : Int32) w0 w1 w2 w3 w4 w5 w6 w7 w8 w9 w10 w0 h0 n0 Z0 S0 S1 S2 S3 S4 S5 S6 S7 S8 S9 S10 (by simp [pickF])) hZ (hw _ (List.mem_of_getElem? (i := 4) rfl)) (hw _ (List.mem_of_getElem? (i := 3) rfl)) (by decide) (by decide)) (g := (mkF m 9 #[.val (.int p1), .val (.int (0 : Int32)), .unset, .unset] [(.int (0 : Int32))])) rfl (by rw [hml]; rfl) (argsL := [(.int (0 : Int32))]) (rest := []) (lenOf pdL_0 rfl) rfl (by show 2 * 0 + _ ≤ _; exact Nat.le_of_eq rfl) (hb hby at_9) (fun _ _ => ⟨rfl, e0, (by decide : 0 + 0 ≤ _), (by decide : 0 + 0 ≤ _)⟩)
    dsimp only [Pt.U, Pt.locs, Pt.cells, Pt.slots] at X4 l4 y4 z4 st4 hQ4
    subst l4 y4 z4
    obtain ⟨rfl, N4q, hq4⟩ := hQ4
    have N4 := Fr.app N0 N4q
    have pre5 : Go p e below T4 (mkF m 12 #[.val (.int p1), .val (.int (0 : Int32)), .unset, .unset] [(.ref w0)]) s₁ (entryFrame m #[(.int p1)] maxLocals) := fun t k => pre3 t (st4 t k)
    have e4 : T4.heap = h0 := hq4
    have pre6 : Go p e below T4 (mkF m 16 #[.val (.int p1), .val (.int (0 : Int32)), .val (.ref w0), .unset] [(.int (9 : Int32)), (.int (0 : Int32))]) s₁ (entryFrame m #[(.int p1)] maxLocals) := fun t k => pre5 t (by
        show Steps p.tables e below (T4.setTop (mkF m 12 #[.val (.int p1), .val (.int (0 : Int32)), .unset, .unset] [(.ref w0)])) t
        refine XS.astoreN X4.here hx rfl (hb hby at_12) rfl rfl (l' := #[.val (.int p1), .val (.int (0 : Int32)), .val (.ref w0), .unset]) rfl ?_
        show Steps p.tables e below (T4.setTop (mkF m 13 #[.val (.int p1), .val (.int (0 : Int32)), .val (.ref w0), .unset] [])) t
        refine XS.iloadN X4.here hx rfl (hb hby at_13) rfl ?_
        show Steps p.tables e below (T4.setTop (mkF m 14 #[.val (.int p1), .val (.int (0 : Int32)), .val (.ref w0), .unset] [(.int (0 : Int32))])) t
        refine XS.bipush X4.here hx rfl (hb hby at_14) ?_
        exact k)
    have pre7 : Go p e below T4 (mkF m 19 #[.val (.int p1), .val (.int (0 : Int32)), .val (.ref w0), .unset] []) s₁ (entryFrame m #[(.int p1)] maxLocals) := fun t k => pre6 t (XS.icmpNo X4.here hx rfl (hb hby at_16) rfl (feq (by decide : ¬ ((0 : Int32) = (9 : Int32)))).1 k)
    have pre8 : Go p e below T4 (mkF m 22 #[.val (.int p1), .val (.int (0 : Int32)), .val (.ref w0), .unset] [(.int (10 : Int32)), (.int (0 : Int32))]) s₁ (entryFrame m #[(.int p1)] maxLocals) := fun t k => pre7 t (by
        show Steps p.tables e below (T4.setTop (mkF m 19 #[.val (.int p1), .val (.int (0 : Int32)), .val (.ref w0), .unset] [])) t
        refine XS.iloadN X4.here hx rfl (hb hby at_19) rfl ?_
        show Steps p.tables e below (T4.setTop (mkF m 20 #[.val (.int p1), .val (.int (0 : Int32)), .val (.ref w0), .unset] [(.int (0 : Int32))])) t
        refine XS.bipush X4.here hx rfl (hb hby at_20) ?_
        exact k)
    have pre9 : Go p e below T4 (mkF m 29 #[.val (.int p1), .val (.int (0 : Int32)), .val (.ref w0), .unset] []) s₁ (entryFrame m #[(.int p1)] maxLocals) := fun t k => pre8 t (XS.icmpYes X4.here hx rfl (pc0 := 22) (pc' := 29) rfl (hb hby at_22) rfl (feq (by decide : ¬ ((0 : Int32) = (10 : Int32)))).2 (by decide) (by decide) k)
    have pre10 : Go p e below T4 (mkF m 32 #[.val (.int p1), .val (.int (0 : Int32)), .val (.ref w0), .val (.int (0 : Int32))] [(.ref w0)]) s₁ (entryFrame m #[(.int p1)] maxLocals) := fun t k => pre9 t (by
        show Steps p.tables e below (T4.setTop (mkF m 29 #[.val (.int p1), .val (.int (0 : Int32)), .val (.ref w0), .unset] [])) t
        refine XS.iconst X4.here hx rfl (hb hby at_29) ?_
        show Steps p.tables e below (T4.setTop (mkF m 30 #[.val (.int p1), .val (.int (0 : Int32)), .val (.ref w0), .unset] [(.int (0 : Int32))])) t
        refine XS.istoreN X4.here hx rfl (hb hby at_30) rfl (l' := #[.val (.int p1), .val (.int (0 : Int32)), .val (.ref w0), .val (.int (0 : Int32))]) rfl ?_
        show Steps p.tables e below (T4.setTop (mkF m 31 #[.val (.int p1), .val (.int (0 : Int32)), .val (.ref w0), .val (.int (0 : Int32))] [])) t
        refine XS.aloadN X4.here hx rfl (hb hby at_31) rfl rfl ?_
        exact k)
    obtain ⟨cq11, kq11, q11a, q11b, q11c⟩ := isOf hZ e4 E0
    obtain ⟨_, _, ⟨T11, L11, k11, n11⟩, -, X11, ⟨Lc11, hQ11, l11, y11, z11⟩, st11⟩ := X4.virtualBack hx (y := (⟨"com/example/tiro/tiro/vault/DataType", "isLookup", "()Z"⟩ : MethodName)) (z := (⟨"com/example/tiro/tiro/vault/DataType", "isLookup", "()Z"⟩ : MethodName)) hown (mvT hZ (hw _ (List.mem_of_getElem? (i := 8) rfl))) (mvT hZ (hw _ (List.mem_of_getElem? (i := 9) rfl))) (notFace_of_selects (args := #[]) (mvT hZ (hw _ (List.mem_of_getElem? (i := 11) rfl)))) (mvT hZ (hw _ (List.mem_of_getElem? (i := 11) rfl))) (mvT hZ (hw _ (List.mem_of_getElem? (i := 10) rfl))) (by decide) (backOf (W := 0) (rmF l Z a0 hw [] w0 w9 w10 0 h0 n0 Z0 S9 S10 (by simp [testF, d0_9, d0_10])) hZ (hw _ (List.mem_of_getElem? (i := 12) rfl)) (hw _ (List.mem_of_getElem? (i := 6) rfl)) (by decide) (by decide)) q11a q11c (g := (mkF m 32 #[.val (.int p1), .val (.int (0 : Int32)), .val (.ref w0), .val (.int (0 : Int32))] [(.ref w0)])) rfl (by rw [hml]; rfl) (Steps.refl _) (argsL := []) (rest := []) (lenOf pdL_1 rfl) rfl (by show 2 * 0 + _ ≤ _; exact Nat.le_of_eq rfl) (hb hby at_32) (fun _ _ => ⟨rfl, e4, (by decide : 0 + 0 ≤ _), (by decide : 0 + 0 ≤ _)⟩)
    dsimp only [Pt.U, Pt.locs, Pt.cells, Pt.slots] at X11 l11 y11 z11 st11 hQ11
    subst l11 y11 z11
    obtain ⟨rfl, N11q, hq11⟩ := hQ11
    have N11 := Fr.app N4 N11q
    have pre12 : Go p e below T11 (mkF m 35 #[.val (.int p1), .val (.int (0 : Int32)), .val (.ref w0), .val (.int (0 : Int32))] [(.int (0 : Int32))]) s₁ (entryFrame m #[(.int p1)] maxLocals) := fun t k => pre10 t (st11.trans k)
    have e11 : T11.heap = h0 := hq11
    have pre13 : Go p e below T11 (mkF m 36 #[.val (.int p1), .val (.int (0 : Int32)), .val (.ref w0), .val (.int (0 : Int32))] [(.int (0 : Int32)), (.int (0 : Int32))]) s₁ (entryFrame m #[(.int p1)] maxLocals) := fun t k => pre12 t (by
        show Steps p.tables e below (T11.setTop (mkF m 35 #[.val (.int p1), .val (.int (0 : Int32)), .val (.ref w0), .val (.int (0 : Int32))] [(.int (0 : Int32))])) t
        refine XS.iloadN X11.here hx rfl (hb hby at_35) rfl ?_
        exact k)
    have pre14 : Go p e below T11 (mkF m 39 #[.val (.int p1), .val (.int (0 : Int32)), .val (.ref w0), .val (.int (0 : Int32))] []) s₁ (entryFrame m #[(.int p1)] maxLocals) := fun t k => pre13 t (XS.icmpNo X11.here hx rfl (hb hby at_36) rfl (teq (by decide : (0 : Int32) = (0 : Int32))).2 k)
    have pre15 : Go p e below T11 (mkF m 44 #[.val (.int p1), .val (.int (0 : Int32)), .val (.ref w0), .val (.int (0 : Int32))] [(.int (1 : Int32))]) s₁ (entryFrame m #[(.int p1)] maxLocals) := fun t k => pre14 t (by
        show Steps p.tables e below (T11.setTop (mkF m 39 #[.val (.int p1), .val (.int (0 : Int32)), .val (.ref w0), .val (.int (0 : Int32))] [])) t
        refine XS.iconst X11.here hx rfl (hb hby at_39) ?_
        show Steps p.tables e below (T11.setTop (mkF m 40 #[.val (.int p1), .val (.int (0 : Int32)), .val (.ref w0), .val (.int (0 : Int32))] [(.int (1 : Int32))])) t
        refine XS.goto X11.here hx rfl (pc0 := 40) (pc' := 44) rfl (hb hby at_40) (by decide) (by decide) ?_
        exact k)
    have hnr : Value.int (nar .boolean (1 : Int32)) = (.int (1 : Int32)) := by rfl
    obtain ⟨fs, hr, hrun, hended, hW, hsame⟩ := X11.leave (v := some (.int (1 : Int32))) (fun h => by rw [Bd.returns] at h; cases h)
    refine ⟨_, _, pre15 _ (retN X11 hx (t := .boolean) Bd.returns (by simp) (hb hby at_44) (hnr ▸ hr)), hrun, hended, _, _, rfl, ?_, ⟨_, rfl⟩, hW, hsame.mono (by decide) (by decide)⟩
    show QL Z p1 w0 w1 w2 w3 w4 w5 w6 w7 w8 w9 w10 h0 n0 _ T11.heap _
    rw [e11]
    exact ⟨rfl, N11⟩
  · have pre16 : Go p e below s₁ (mkF m 9 #[.val (.int p1), .val (.int (1 : Int32)), .unset, .unset] [(.int (1 : Int32))]) s₁ (entryFrame m #[(.int p1)] maxLocals) := fun t k => pre1 t (by
        show Steps p.tables e below (s₁.setTop (mkF m 7 #[.val (.int p1), .unset, .unset, .unset] [(.int ((p1 &&& (2147483647 : Int32)) % (11 : Int32)))])) t
        refine XS.istoreN X0.here hx rfl (hb hby at_7) rfl (l' := #[.val (.int p1), .val (.int (1 : Int32)), .unset, .unset]) (by rw [hv2_1]; rfl) ?_
        show Steps p.tables e below (s₁.setTop (mkF m 8 #[.val (.int p1), .val (.int (1 : Int32)), .unset, .unset] [])) t
        refine XS.iloadN X0.here hx rfl (hb hby at_8) rfl ?_
        exact k)
    obtain ⟨_, _, ⟨T17, L17, k17, n17⟩, -, X17, ⟨Lc17, hQ17, l17, y17, z17⟩, st17⟩ := Jvm.LawKit.callS X0 hx (y := (⟨"com/example/tiro/tiro/vault/DataTypeIsLookupPinLaw", "pick", "(I)Lcom/example/tiro/tiro/vault/DataType;"⟩ : MethodName)) hown (mvT hZ (hw _ (List.mem_of_getElem? (i := 1) rfl))) (mvT hZ (hw _ (List.mem_of_getElem? (i := 2) rfl))) (mvT hZ (hw _ (List.mem_of_getElem? (i := 3) rfl))) (mvT hZ (hw _ (List.mem_of_getElem? (i := 4) rfl))) (by decide) (backOf (W := 0) (rmP l Z a0 hw [] (1 : Int32) w0 w1 w2 w3 w4 w5 w6 w7 w8 w9 w10 w1 h0 n0 Z0 S0 S1 S2 S3 S4 S5 S6 S7 S8 S9 S10 (by simp [pickF])) hZ (hw _ (List.mem_of_getElem? (i := 4) rfl)) (hw _ (List.mem_of_getElem? (i := 3) rfl)) (by decide) (by decide)) (g := (mkF m 9 #[.val (.int p1), .val (.int (1 : Int32)), .unset, .unset] [(.int (1 : Int32))])) rfl (by rw [hml]; rfl) (argsL := [(.int (1 : Int32))]) (rest := []) (lenOf pdL_0 rfl) rfl (by show 2 * 0 + _ ≤ _; exact Nat.le_of_eq rfl) (hb hby at_9) (fun _ _ => ⟨rfl, e0, (by decide : 0 + 0 ≤ _), (by decide : 0 + 0 ≤ _)⟩)
    dsimp only [Pt.U, Pt.locs, Pt.cells, Pt.slots] at X17 l17 y17 z17 st17 hQ17
    subst l17 y17 z17
    obtain ⟨rfl, N17q, hq17⟩ := hQ17
    have N17 := Fr.app N0 N17q
    have pre18 : Go p e below T17 (mkF m 12 #[.val (.int p1), .val (.int (1 : Int32)), .unset, .unset] [(.ref w1)]) s₁ (entryFrame m #[(.int p1)] maxLocals) := fun t k => pre16 t (st17 t k)
    have e17 : T17.heap = h0 := hq17
    have pre19 : Go p e below T17 (mkF m 16 #[.val (.int p1), .val (.int (1 : Int32)), .val (.ref w1), .unset] [(.int (9 : Int32)), (.int (1 : Int32))]) s₁ (entryFrame m #[(.int p1)] maxLocals) := fun t k => pre18 t (by
        show Steps p.tables e below (T17.setTop (mkF m 12 #[.val (.int p1), .val (.int (1 : Int32)), .unset, .unset] [(.ref w1)])) t
        refine XS.astoreN X17.here hx rfl (hb hby at_12) rfl rfl (l' := #[.val (.int p1), .val (.int (1 : Int32)), .val (.ref w1), .unset]) rfl ?_
        show Steps p.tables e below (T17.setTop (mkF m 13 #[.val (.int p1), .val (.int (1 : Int32)), .val (.ref w1), .unset] [])) t
        refine XS.iloadN X17.here hx rfl (hb hby at_13) rfl ?_
        show Steps p.tables e below (T17.setTop (mkF m 14 #[.val (.int p1), .val (.int (1 : Int32)), .val (.ref w1), .unset] [(.int (1 : Int32))])) t
        refine XS.bipush X17.here hx rfl (hb hby at_14) ?_
        exact k)
    have pre20 : Go p e below T17 (mkF m 19 #[.val (.int p1), .val (.int (1 : Int32)), .val (.ref w1), .unset] []) s₁ (entryFrame m #[(.int p1)] maxLocals) := fun t k => pre19 t (XS.icmpNo X17.here hx rfl (hb hby at_16) rfl (feq (by decide : ¬ ((1 : Int32) = (9 : Int32)))).1 k)
    have pre21 : Go p e below T17 (mkF m 22 #[.val (.int p1), .val (.int (1 : Int32)), .val (.ref w1), .unset] [(.int (10 : Int32)), (.int (1 : Int32))]) s₁ (entryFrame m #[(.int p1)] maxLocals) := fun t k => pre20 t (by
        show Steps p.tables e below (T17.setTop (mkF m 19 #[.val (.int p1), .val (.int (1 : Int32)), .val (.ref w1), .unset] [])) t
        refine XS.iloadN X17.here hx rfl (hb hby at_19) rfl ?_
        show Steps p.tables e below (T17.setTop (mkF m 20 #[.val (.int p1), .val (.int (1 : Int32)), .val (.ref w1), .unset] [(.int (1 : Int32))])) t
        refine XS.bipush X17.here hx rfl (hb hby at_20) ?_
        exact k)
    have pre22 : Go p e below T17 (mkF m 29 #[.val (.int p1), .val (.int (1 : Int32)), .val (.ref w1), .unset] []) s₁ (entryFrame m #[(.int p1)] maxLocals) := fun t k => pre21 t (XS.icmpYes X17.here hx rfl (pc0 := 22) (pc' := 29) rfl (hb hby at_22) rfl (feq (by decide : ¬ ((1 : Int32) = (10 : Int32)))).2 (by decide) (by decide) k)
    have pre23 : Go p e below T17 (mkF m 32 #[.val (.int p1), .val (.int (1 : Int32)), .val (.ref w1), .val (.int (0 : Int32))] [(.ref w1)]) s₁ (entryFrame m #[(.int p1)] maxLocals) := fun t k => pre22 t (by
        show Steps p.tables e below (T17.setTop (mkF m 29 #[.val (.int p1), .val (.int (1 : Int32)), .val (.ref w1), .unset] [])) t
        refine XS.iconst X17.here hx rfl (hb hby at_29) ?_
        show Steps p.tables e below (T17.setTop (mkF m 30 #[.val (.int p1), .val (.int (1 : Int32)), .val (.ref w1), .unset] [(.int (0 : Int32))])) t
        refine XS.istoreN X17.here hx rfl (hb hby at_30) rfl (l' := #[.val (.int p1), .val (.int (1 : Int32)), .val (.ref w1), .val (.int (0 : Int32))]) rfl ?_
        show Steps p.tables e below (T17.setTop (mkF m 31 #[.val (.int p1), .val (.int (1 : Int32)), .val (.ref w1), .val (.int (0 : Int32))] [])) t
        refine XS.aloadN X17.here hx rfl (hb hby at_31) rfl rfl ?_
        exact k)
    obtain ⟨cq24, kq24, q24a, q24b, q24c⟩ := isOf hZ e17 E1
    obtain ⟨_, _, ⟨T24, L24, k24, n24⟩, -, X24, ⟨Lc24, hQ24, l24, y24, z24⟩, st24⟩ := X17.virtualBack hx (y := (⟨"com/example/tiro/tiro/vault/DataType", "isLookup", "()Z"⟩ : MethodName)) (z := (⟨"com/example/tiro/tiro/vault/DataType", "isLookup", "()Z"⟩ : MethodName)) hown (mvT hZ (hw _ (List.mem_of_getElem? (i := 8) rfl))) (mvT hZ (hw _ (List.mem_of_getElem? (i := 9) rfl))) (notFace_of_selects (args := #[]) (mvT hZ (hw _ (List.mem_of_getElem? (i := 11) rfl)))) (mvT hZ (hw _ (List.mem_of_getElem? (i := 11) rfl))) (mvT hZ (hw _ (List.mem_of_getElem? (i := 10) rfl))) (by decide) (backOf (W := 0) (rmF l Z a0 hw [] w1 w9 w10 0 h0 n0 Z0 S9 S10 (by simp [testF, d1_9, d1_10])) hZ (hw _ (List.mem_of_getElem? (i := 12) rfl)) (hw _ (List.mem_of_getElem? (i := 6) rfl)) (by decide) (by decide)) q24a q24c (g := (mkF m 32 #[.val (.int p1), .val (.int (1 : Int32)), .val (.ref w1), .val (.int (0 : Int32))] [(.ref w1)])) rfl (by rw [hml]; rfl) (Steps.refl _) (argsL := []) (rest := []) (lenOf pdL_1 rfl) rfl (by show 2 * 0 + _ ≤ _; exact Nat.le_of_eq rfl) (hb hby at_32) (fun _ _ => ⟨rfl, e17, (by decide : 0 + 0 ≤ _), (by decide : 0 + 0 ≤ _)⟩)
    dsimp only [Pt.U, Pt.locs, Pt.cells, Pt.slots] at X24 l24 y24 z24 st24 hQ24
    subst l24 y24 z24
    obtain ⟨rfl, N24q, hq24⟩ := hQ24
    have N24 := Fr.app N17 N24q
    have pre25 : Go p e below T24 (mkF m 35 #[.val (.int p1), .val (.int (1 : Int32)), .val (.ref w1), .val (.int (0 : Int32))] [(.int (0 : Int32))]) s₁ (entryFrame m #[(.int p1)] maxLocals) := fun t k => pre23 t (st24.trans k)
    have e24 : T24.heap = h0 := hq24
    have pre26 : Go p e below T24 (mkF m 36 #[.val (.int p1), .val (.int (1 : Int32)), .val (.ref w1), .val (.int (0 : Int32))] [(.int (0 : Int32)), (.int (0 : Int32))]) s₁ (entryFrame m #[(.int p1)] maxLocals) := fun t k => pre25 t (by
        show Steps p.tables e below (T24.setTop (mkF m 35 #[.val (.int p1), .val (.int (1 : Int32)), .val (.ref w1), .val (.int (0 : Int32))] [(.int (0 : Int32))])) t
        refine XS.iloadN X24.here hx rfl (hb hby at_35) rfl ?_
        exact k)
    have pre27 : Go p e below T24 (mkF m 39 #[.val (.int p1), .val (.int (1 : Int32)), .val (.ref w1), .val (.int (0 : Int32))] []) s₁ (entryFrame m #[(.int p1)] maxLocals) := fun t k => pre26 t (XS.icmpNo X24.here hx rfl (hb hby at_36) rfl (teq (by decide : (0 : Int32) = (0 : Int32))).2 k)
    have pre28 : Go p e below T24 (mkF m 44 #[.val (.int p1), .val (.int (1 : Int32)), .val (.ref w1), .val (.int (0 : Int32))] [(.int (1 : Int32))]) s₁ (entryFrame m #[(.int p1)] maxLocals) := fun t k => pre27 t (by
        show Steps p.tables e below (T24.setTop (mkF m 39 #[.val (.int p1), .val (.int (1 : Int32)), .val (.ref w1), .val (.int (0 : Int32))] [])) t
        refine XS.iconst X24.here hx rfl (hb hby at_39) ?_
        show Steps p.tables e below (T24.setTop (mkF m 40 #[.val (.int p1), .val (.int (1 : Int32)), .val (.ref w1), .val (.int (0 : Int32))] [(.int (1 : Int32))])) t
        refine XS.goto X24.here hx rfl (pc0 := 40) (pc' := 44) rfl (hb hby at_40) (by decide) (by decide) ?_
        exact k)
    have hnr : Value.int (nar .boolean (1 : Int32)) = (.int (1 : Int32)) := by rfl
    obtain ⟨fs, hr, hrun, hended, hW, hsame⟩ := X24.leave (v := some (.int (1 : Int32))) (fun h => by rw [Bd.returns] at h; cases h)
    refine ⟨_, _, pre28 _ (retN X24 hx (t := .boolean) Bd.returns (by simp) (hb hby at_44) (hnr ▸ hr)), hrun, hended, _, _, rfl, ?_, ⟨_, rfl⟩, hW, hsame.mono (by decide) (by decide)⟩
    show QL Z p1 w0 w1 w2 w3 w4 w5 w6 w7 w8 w9 w10 h0 n0 _ T24.heap _
    rw [e24]
    exact ⟨rfl, N24⟩
  · have pre29 : Go p e below s₁ (mkF m 9 #[.val (.int p1), .val (.int (2 : Int32)), .unset, .unset] [(.int (2 : Int32))]) s₁ (entryFrame m #[(.int p1)] maxLocals) := fun t k => pre1 t (by
        show Steps p.tables e below (s₁.setTop (mkF m 7 #[.val (.int p1), .unset, .unset, .unset] [(.int ((p1 &&& (2147483647 : Int32)) % (11 : Int32)))])) t
        refine XS.istoreN X0.here hx rfl (hb hby at_7) rfl (l' := #[.val (.int p1), .val (.int (2 : Int32)), .unset, .unset]) (by rw [hv2_2]; rfl) ?_
        show Steps p.tables e below (s₁.setTop (mkF m 8 #[.val (.int p1), .val (.int (2 : Int32)), .unset, .unset] [])) t
        refine XS.iloadN X0.here hx rfl (hb hby at_8) rfl ?_
        exact k)
    obtain ⟨_, _, ⟨T30, L30, k30, n30⟩, -, X30, ⟨Lc30, hQ30, l30, y30, z30⟩, st30⟩ := Jvm.LawKit.callS X0 hx (y := (⟨"com/example/tiro/tiro/vault/DataTypeIsLookupPinLaw", "pick", "(I)Lcom/example/tiro/tiro/vault/DataType;"⟩ : MethodName)) hown (mvT hZ (hw _ (List.mem_of_getElem? (i := 1) rfl))) (mvT hZ (hw _ (List.mem_of_getElem? (i := 2) rfl))) (mvT hZ (hw _ (List.mem_of_getElem? (i := 3) rfl))) (mvT hZ (hw _ (List.mem_of_getElem? (i := 4) rfl))) (by decide) (backOf (W := 0) (rmP l Z a0 hw [] (2 : Int32) w0 w1 w2 w3 w4 w5 w6 w7 w8 w9 w10 w2 h0 n0 Z0 S0 S1 S2 S3 S4 S5 S6 S7 S8 S9 S10 (by simp [pickF])) hZ (hw _ (List.mem_of_getElem? (i := 4) rfl)) (hw _ (List.mem_of_getElem? (i := 3) rfl)) (by decide) (by decide)) (g := (mkF m 9 #[.val (.int p1), .val (.int (2 : Int32)), .unset, .unset] [(.int (2 : Int32))])) rfl (by rw [hml]; rfl) (argsL := [(.int (2 : Int32))]) (rest := []) (lenOf pdL_0 rfl) rfl (by show 2 * 0 + _ ≤ _; exact Nat.le_of_eq rfl) (hb hby at_9) (fun _ _ => ⟨rfl, e0, (by decide : 0 + 0 ≤ _), (by decide : 0 + 0 ≤ _)⟩)
    dsimp only [Pt.U, Pt.locs, Pt.cells, Pt.slots] at X30 l30 y30 z30 st30 hQ30
    subst l30 y30 z30
    obtain ⟨rfl, N30q, hq30⟩ := hQ30
    have N30 := Fr.app N0 N30q
    have pre31 : Go p e below T30 (mkF m 12 #[.val (.int p1), .val (.int (2 : Int32)), .unset, .unset] [(.ref w2)]) s₁ (entryFrame m #[(.int p1)] maxLocals) := fun t k => pre29 t (st30 t k)
    have e30 : T30.heap = h0 := hq30
    have pre32 : Go p e below T30 (mkF m 16 #[.val (.int p1), .val (.int (2 : Int32)), .val (.ref w2), .unset] [(.int (9 : Int32)), (.int (2 : Int32))]) s₁ (entryFrame m #[(.int p1)] maxLocals) := fun t k => pre31 t (by
        show Steps p.tables e below (T30.setTop (mkF m 12 #[.val (.int p1), .val (.int (2 : Int32)), .unset, .unset] [(.ref w2)])) t
        refine XS.astoreN X30.here hx rfl (hb hby at_12) rfl rfl (l' := #[.val (.int p1), .val (.int (2 : Int32)), .val (.ref w2), .unset]) rfl ?_
        show Steps p.tables e below (T30.setTop (mkF m 13 #[.val (.int p1), .val (.int (2 : Int32)), .val (.ref w2), .unset] [])) t
        refine XS.iloadN X30.here hx rfl (hb hby at_13) rfl ?_
        show Steps p.tables e below (T30.setTop (mkF m 14 #[.val (.int p1), .val (.int (2 : Int32)), .val (.ref w2), .unset] [(.int (2 : Int32))])) t
        refine XS.bipush X30.here hx rfl (hb hby at_14) ?_
        exact k)
    have pre33 : Go p e below T30 (mkF m 19 #[.val (.int p1), .val (.int (2 : Int32)), .val (.ref w2), .unset] []) s₁ (entryFrame m #[(.int p1)] maxLocals) := fun t k => pre32 t (XS.icmpNo X30.here hx rfl (hb hby at_16) rfl (feq (by decide : ¬ ((2 : Int32) = (9 : Int32)))).1 k)
    have pre34 : Go p e below T30 (mkF m 22 #[.val (.int p1), .val (.int (2 : Int32)), .val (.ref w2), .unset] [(.int (10 : Int32)), (.int (2 : Int32))]) s₁ (entryFrame m #[(.int p1)] maxLocals) := fun t k => pre33 t (by
        show Steps p.tables e below (T30.setTop (mkF m 19 #[.val (.int p1), .val (.int (2 : Int32)), .val (.ref w2), .unset] [])) t
        refine XS.iloadN X30.here hx rfl (hb hby at_19) rfl ?_
        show Steps p.tables e below (T30.setTop (mkF m 20 #[.val (.int p1), .val (.int (2 : Int32)), .val (.ref w2), .unset] [(.int (2 : Int32))])) t
        refine XS.bipush X30.here hx rfl (hb hby at_20) ?_
        exact k)
    have pre35 : Go p e below T30 (mkF m 29 #[.val (.int p1), .val (.int (2 : Int32)), .val (.ref w2), .unset] []) s₁ (entryFrame m #[(.int p1)] maxLocals) := fun t k => pre34 t (XS.icmpYes X30.here hx rfl (pc0 := 22) (pc' := 29) rfl (hb hby at_22) rfl (feq (by decide : ¬ ((2 : Int32) = (10 : Int32)))).2 (by decide) (by decide) k)
    have pre36 : Go p e below T30 (mkF m 32 #[.val (.int p1), .val (.int (2 : Int32)), .val (.ref w2), .val (.int (0 : Int32))] [(.ref w2)]) s₁ (entryFrame m #[(.int p1)] maxLocals) := fun t k => pre35 t (by
        show Steps p.tables e below (T30.setTop (mkF m 29 #[.val (.int p1), .val (.int (2 : Int32)), .val (.ref w2), .unset] [])) t
        refine XS.iconst X30.here hx rfl (hb hby at_29) ?_
        show Steps p.tables e below (T30.setTop (mkF m 30 #[.val (.int p1), .val (.int (2 : Int32)), .val (.ref w2), .unset] [(.int (0 : Int32))])) t
        refine XS.istoreN X30.here hx rfl (hb hby at_30) rfl (l' := #[.val (.int p1), .val (.int (2 : Int32)), .val (.ref w2), .val (.int (0 : Int32))]) rfl ?_
        show Steps p.tables e below (T30.setTop (mkF m 31 #[.val (.int p1), .val (.int (2 : Int32)), .val (.ref w2), .val (.int (0 : Int32))] [])) t
        refine XS.aloadN X30.here hx rfl (hb hby at_31) rfl rfl ?_
        exact k)
    obtain ⟨cq37, kq37, q37a, q37b, q37c⟩ := isOf hZ e30 E2
    obtain ⟨_, _, ⟨T37, L37, k37, n37⟩, -, X37, ⟨Lc37, hQ37, l37, y37, z37⟩, st37⟩ := X30.virtualBack hx (y := (⟨"com/example/tiro/tiro/vault/DataType", "isLookup", "()Z"⟩ : MethodName)) (z := (⟨"com/example/tiro/tiro/vault/DataType", "isLookup", "()Z"⟩ : MethodName)) hown (mvT hZ (hw _ (List.mem_of_getElem? (i := 8) rfl))) (mvT hZ (hw _ (List.mem_of_getElem? (i := 9) rfl))) (notFace_of_selects (args := #[]) (mvT hZ (hw _ (List.mem_of_getElem? (i := 11) rfl)))) (mvT hZ (hw _ (List.mem_of_getElem? (i := 11) rfl))) (mvT hZ (hw _ (List.mem_of_getElem? (i := 10) rfl))) (by decide) (backOf (W := 0) (rmF l Z a0 hw [] w2 w9 w10 0 h0 n0 Z0 S9 S10 (by simp [testF, d2_9, d2_10])) hZ (hw _ (List.mem_of_getElem? (i := 12) rfl)) (hw _ (List.mem_of_getElem? (i := 6) rfl)) (by decide) (by decide)) q37a q37c (g := (mkF m 32 #[.val (.int p1), .val (.int (2 : Int32)), .val (.ref w2), .val (.int (0 : Int32))] [(.ref w2)])) rfl (by rw [hml]; rfl) (Steps.refl _) (argsL := []) (rest := []) (lenOf pdL_1 rfl) rfl (by show 2 * 0 + _ ≤ _; exact Nat.le_of_eq rfl) (hb hby at_32) (fun _ _ => ⟨rfl, e30, (by decide : 0 + 0 ≤ _), (by decide : 0 + 0 ≤ _)⟩)
    dsimp only [Pt.U, Pt.locs, Pt.cells, Pt.slots] at X37 l37 y37 z37 st37 hQ37
    subst l37 y37 z37
    obtain ⟨rfl, N37q, hq37⟩ := hQ37
    have N37 := Fr.app N30 N37q
    have pre38 : Go p e below T37 (mkF m 35 #[.val (.int p1), .val (.int (2 : Int32)), .val (.ref w2), .val (.int (0 : Int32))] [(.int (0 : Int32))]) s₁ (entryFrame m #[(.int p1)] maxLocals) := fun t k => pre36 t (st37.trans k)
    have e37 : T37.heap = h0 := hq37
    have pre39 : Go p e below T37 (mkF m 36 #[.val (.int p1), .val (.int (2 : Int32)), .val (.ref w2), .val (.int (0 : Int32))] [(.int (0 : Int32)), (.int (0 : Int32))]) s₁ (entryFrame m #[(.int p1)] maxLocals) := fun t k => pre38 t (by
        show Steps p.tables e below (T37.setTop (mkF m 35 #[.val (.int p1), .val (.int (2 : Int32)), .val (.ref w2), .val (.int (0 : Int32))] [(.int (0 : Int32))])) t
        refine XS.iloadN X37.here hx rfl (hb hby at_35) rfl ?_
        exact k)
    have pre40 : Go p e below T37 (mkF m 39 #[.val (.int p1), .val (.int (2 : Int32)), .val (.ref w2), .val (.int (0 : Int32))] []) s₁ (entryFrame m #[(.int p1)] maxLocals) := fun t k => pre39 t (XS.icmpNo X37.here hx rfl (hb hby at_36) rfl (teq (by decide : (0 : Int32) = (0 : Int32))).2 k)
    have pre41 : Go p e below T37 (mkF m 44 #[.val (.int p1), .val (.int (2 : Int32)), .val (.ref w2), .val (.int (0 : Int32))] [(.int (1 : Int32))]) s₁ (entryFrame m #[(.int p1)] maxLocals) := fun t k => pre40 t (by
        show Steps p.tables e below (T37.setTop (mkF m 39 #[.val (.int p1), .val (.int (2 : Int32)), .val (.ref w2), .val (.int (0 : Int32))] [])) t
        refine XS.iconst X37.here hx rfl (hb hby at_39) ?_
        show Steps p.tables e below (T37.setTop (mkF m 40 #[.val (.int p1), .val (.int (2 : Int32)), .val (.ref w2), .val (.int (0 : Int32))] [(.int (1 : Int32))])) t
        refine XS.goto X37.here hx rfl (pc0 := 40) (pc' := 44) rfl (hb hby at_40) (by decide) (by decide) ?_
        exact k)
    have hnr : Value.int (nar .boolean (1 : Int32)) = (.int (1 : Int32)) := by rfl
    obtain ⟨fs, hr, hrun, hended, hW, hsame⟩ := X37.leave (v := some (.int (1 : Int32))) (fun h => by rw [Bd.returns] at h; cases h)
    refine ⟨_, _, pre41 _ (retN X37 hx (t := .boolean) Bd.returns (by simp) (hb hby at_44) (hnr ▸ hr)), hrun, hended, _, _, rfl, ?_, ⟨_, rfl⟩, hW, hsame.mono (by decide) (by decide)⟩
    show QL Z p1 w0 w1 w2 w3 w4 w5 w6 w7 w8 w9 w10 h0 n0 _ T37.heap _
    rw [e37]
    exact ⟨rfl, N37⟩
  · have pre42 : Go p e below s₁ (mkF m 9 #[.val (.int p1), .val (.int (3 : Int32)), .unset, .unset] [(.int (3 : Int32))]) s₁ (entryFrame m #[(.int p1)] maxLocals) := fun t k => pre1 t (by
        show Steps p.tables e below (s₁.setTop (mkF m 7 #[.val (.int p1), .unset, .unset, .unset] [(.int ((p1 &&& (2147483647 : Int32)) % (11 : Int32)))])) t
        refine XS.istoreN X0.here hx rfl (hb hby at_7) rfl (l' := #[.val (.int p1), .val (.int (3 : Int32)), .unset, .unset]) (by rw [hv2_3]; rfl) ?_
        show Steps p.tables e below (s₁.setTop (mkF m 8 #[.val (.int p1), .val (.int (3 : Int32)), .unset, .unset] [])) t
        refine XS.iloadN X0.here hx rfl (hb hby at_8) rfl ?_
        exact k)
    obtain ⟨_, _, ⟨T43, L43, k43, n43⟩, -, X43, ⟨Lc43, hQ43, l43, y43, z43⟩, st43⟩ := Jvm.LawKit.callS X0 hx (y := (⟨"com/example/tiro/tiro/vault/DataTypeIsLookupPinLaw", "pick", "(I)Lcom/example/tiro/tiro/vault/DataType;"⟩ : MethodName)) hown (mvT hZ (hw _ (List.mem_of_getElem? (i := 1) rfl))) (mvT hZ (hw _ (List.mem_of_getElem? (i := 2) rfl))) (mvT hZ (hw _ (List.mem_of_getElem? (i := 3) rfl))) (mvT hZ (hw _ (List.mem_of_getElem? (i := 4) rfl))) (by decide) (backOf (W := 0) (rmP l Z a0 hw [] (3 : Int32) w0 w1 w2 w3 w4 w5 w6 w7 w8 w9 w10 w3 h0 n0 Z0 S0 S1 S2 S3 S4 S5 S6 S7 S8 S9 S10 (by simp [pickF])) hZ (hw _ (List.mem_of_getElem? (i := 4) rfl)) (hw _ (List.mem_of_getElem? (i := 3) rfl)) (by decide) (by decide)) (g := (mkF m 9 #[.val (.int p1), .val (.int (3 : Int32)), .unset, .unset] [(.int (3 : Int32))])) rfl (by rw [hml]; rfl) (argsL := [(.int (3 : Int32))]) (rest := []) (lenOf pdL_0 rfl) rfl (by show 2 * 0 + _ ≤ _; exact Nat.le_of_eq rfl) (hb hby at_9) (fun _ _ => ⟨rfl, e0, (by decide : 0 + 0 ≤ _), (by decide : 0 + 0 ≤ _)⟩)
    dsimp only [Pt.U, Pt.locs, Pt.cells, Pt.slots] at X43 l43 y43 z43 st43 hQ43
    subst l43 y43 z43
    obtain ⟨rfl, N43q, hq43⟩ := hQ43
    have N43 := Fr.app N0 N43q
    have pre44 : Go p e below T43 (mkF m 12 #[.val (.int p1), .val (.int (3 : Int32)), .unset, .unset] [(.ref w3)]) s₁ (entryFrame m #[(.int p1)] maxLocals) := fun t k => pre42 t (st43 t k)
    have e43 : T43.heap = h0 := hq43
    have pre45 : Go p e below T43 (mkF m 16 #[.val (.int p1), .val (.int (3 : Int32)), .val (.ref w3), .unset] [(.int (9 : Int32)), (.int (3 : Int32))]) s₁ (entryFrame m #[(.int p1)] maxLocals) := fun t k => pre44 t (by
        show Steps p.tables e below (T43.setTop (mkF m 12 #[.val (.int p1), .val (.int (3 : Int32)), .unset, .unset] [(.ref w3)])) t
        refine XS.astoreN X43.here hx rfl (hb hby at_12) rfl rfl (l' := #[.val (.int p1), .val (.int (3 : Int32)), .val (.ref w3), .unset]) rfl ?_
        show Steps p.tables e below (T43.setTop (mkF m 13 #[.val (.int p1), .val (.int (3 : Int32)), .val (.ref w3), .unset] [])) t
        refine XS.iloadN X43.here hx rfl (hb hby at_13) rfl ?_
        show Steps p.tables e below (T43.setTop (mkF m 14 #[.val (.int p1), .val (.int (3 : Int32)), .val (.ref w3), .unset] [(.int (3 : Int32))])) t
        refine XS.bipush X43.here hx rfl (hb hby at_14) ?_
        exact k)
    have pre46 : Go p e below T43 (mkF m 19 #[.val (.int p1), .val (.int (3 : Int32)), .val (.ref w3), .unset] []) s₁ (entryFrame m #[(.int p1)] maxLocals) := fun t k => pre45 t (XS.icmpNo X43.here hx rfl (hb hby at_16) rfl (feq (by decide : ¬ ((3 : Int32) = (9 : Int32)))).1 k)
    have pre47 : Go p e below T43 (mkF m 22 #[.val (.int p1), .val (.int (3 : Int32)), .val (.ref w3), .unset] [(.int (10 : Int32)), (.int (3 : Int32))]) s₁ (entryFrame m #[(.int p1)] maxLocals) := fun t k => pre46 t (by
        show Steps p.tables e below (T43.setTop (mkF m 19 #[.val (.int p1), .val (.int (3 : Int32)), .val (.ref w3), .unset] [])) t
        refine XS.iloadN X43.here hx rfl (hb hby at_19) rfl ?_
        show Steps p.tables e below (T43.setTop (mkF m 20 #[.val (.int p1), .val (.int (3 : Int32)), .val (.ref w3), .unset] [(.int (3 : Int32))])) t
        refine XS.bipush X43.here hx rfl (hb hby at_20) ?_
        exact k)
    have pre48 : Go p e below T43 (mkF m 29 #[.val (.int p1), .val (.int (3 : Int32)), .val (.ref w3), .unset] []) s₁ (entryFrame m #[(.int p1)] maxLocals) := fun t k => pre47 t (XS.icmpYes X43.here hx rfl (pc0 := 22) (pc' := 29) rfl (hb hby at_22) rfl (feq (by decide : ¬ ((3 : Int32) = (10 : Int32)))).2 (by decide) (by decide) k)
    have pre49 : Go p e below T43 (mkF m 32 #[.val (.int p1), .val (.int (3 : Int32)), .val (.ref w3), .val (.int (0 : Int32))] [(.ref w3)]) s₁ (entryFrame m #[(.int p1)] maxLocals) := fun t k => pre48 t (by
        show Steps p.tables e below (T43.setTop (mkF m 29 #[.val (.int p1), .val (.int (3 : Int32)), .val (.ref w3), .unset] [])) t
        refine XS.iconst X43.here hx rfl (hb hby at_29) ?_
        show Steps p.tables e below (T43.setTop (mkF m 30 #[.val (.int p1), .val (.int (3 : Int32)), .val (.ref w3), .unset] [(.int (0 : Int32))])) t
        refine XS.istoreN X43.here hx rfl (hb hby at_30) rfl (l' := #[.val (.int p1), .val (.int (3 : Int32)), .val (.ref w3), .val (.int (0 : Int32))]) rfl ?_
        show Steps p.tables e below (T43.setTop (mkF m 31 #[.val (.int p1), .val (.int (3 : Int32)), .val (.ref w3), .val (.int (0 : Int32))] [])) t
        refine XS.aloadN X43.here hx rfl (hb hby at_31) rfl rfl ?_
        exact k)
    obtain ⟨cq50, kq50, q50a, q50b, q50c⟩ := isOf hZ e43 E3
    obtain ⟨_, _, ⟨T50, L50, k50, n50⟩, -, X50, ⟨Lc50, hQ50, l50, y50, z50⟩, st50⟩ := X43.virtualBack hx (y := (⟨"com/example/tiro/tiro/vault/DataType", "isLookup", "()Z"⟩ : MethodName)) (z := (⟨"com/example/tiro/tiro/vault/DataType", "isLookup", "()Z"⟩ : MethodName)) hown (mvT hZ (hw _ (List.mem_of_getElem? (i := 8) rfl))) (mvT hZ (hw _ (List.mem_of_getElem? (i := 9) rfl))) (notFace_of_selects (args := #[]) (mvT hZ (hw _ (List.mem_of_getElem? (i := 11) rfl)))) (mvT hZ (hw _ (List.mem_of_getElem? (i := 11) rfl))) (mvT hZ (hw _ (List.mem_of_getElem? (i := 10) rfl))) (by decide) (backOf (W := 0) (rmF l Z a0 hw [] w3 w9 w10 0 h0 n0 Z0 S9 S10 (by simp [testF, d3_9, d3_10])) hZ (hw _ (List.mem_of_getElem? (i := 12) rfl)) (hw _ (List.mem_of_getElem? (i := 6) rfl)) (by decide) (by decide)) q50a q50c (g := (mkF m 32 #[.val (.int p1), .val (.int (3 : Int32)), .val (.ref w3), .val (.int (0 : Int32))] [(.ref w3)])) rfl (by rw [hml]; rfl) (Steps.refl _) (argsL := []) (rest := []) (lenOf pdL_1 rfl) rfl (by show 2 * 0 + _ ≤ _; exact Nat.le_of_eq rfl) (hb hby at_32) (fun _ _ => ⟨rfl, e43, (by decide : 0 + 0 ≤ _), (by decide : 0 + 0 ≤ _)⟩)
    dsimp only [Pt.U, Pt.locs, Pt.cells, Pt.slots] at X50 l50 y50 z50 st50 hQ50
    subst l50 y50 z50
    obtain ⟨rfl, N50q, hq50⟩ := hQ50
    have N50 := Fr.app N43 N50q
    have pre51 : Go p e below T50 (mkF m 35 #[.val (.int p1), .val (.int (3 : Int32)), .val (.ref w3), .val (.int (0 : Int32))] [(.int (0 : Int32))]) s₁ (entryFrame m #[(.int p1)] maxLocals) := fun t k => pre49 t (st50.trans k)
    have e50 : T50.heap = h0 := hq50
    have pre52 : Go p e below T50 (mkF m 36 #[.val (.int p1), .val (.int (3 : Int32)), .val (.ref w3), .val (.int (0 : Int32))] [(.int (0 : Int32)), (.int (0 : Int32))]) s₁ (entryFrame m #[(.int p1)] maxLocals) := fun t k => pre51 t (by
        show Steps p.tables e below (T50.setTop (mkF m 35 #[.val (.int p1), .val (.int (3 : Int32)), .val (.ref w3), .val (.int (0 : Int32))] [(.int (0 : Int32))])) t
        refine XS.iloadN X50.here hx rfl (hb hby at_35) rfl ?_
        exact k)
    have pre53 : Go p e below T50 (mkF m 39 #[.val (.int p1), .val (.int (3 : Int32)), .val (.ref w3), .val (.int (0 : Int32))] []) s₁ (entryFrame m #[(.int p1)] maxLocals) := fun t k => pre52 t (XS.icmpNo X50.here hx rfl (hb hby at_36) rfl (teq (by decide : (0 : Int32) = (0 : Int32))).2 k)
    have pre54 : Go p e below T50 (mkF m 44 #[.val (.int p1), .val (.int (3 : Int32)), .val (.ref w3), .val (.int (0 : Int32))] [(.int (1 : Int32))]) s₁ (entryFrame m #[(.int p1)] maxLocals) := fun t k => pre53 t (by
        show Steps p.tables e below (T50.setTop (mkF m 39 #[.val (.int p1), .val (.int (3 : Int32)), .val (.ref w3), .val (.int (0 : Int32))] [])) t
        refine XS.iconst X50.here hx rfl (hb hby at_39) ?_
        show Steps p.tables e below (T50.setTop (mkF m 40 #[.val (.int p1), .val (.int (3 : Int32)), .val (.ref w3), .val (.int (0 : Int32))] [(.int (1 : Int32))])) t
        refine XS.goto X50.here hx rfl (pc0 := 40) (pc' := 44) rfl (hb hby at_40) (by decide) (by decide) ?_
        exact k)
    have hnr : Value.int (nar .boolean (1 : Int32)) = (.int (1 : Int32)) := by rfl
    obtain ⟨fs, hr, hrun, hended, hW, hsame⟩ := X50.leave (v := some (.int (1 : Int32))) (fun h => by rw [Bd.returns] at h; cases h)
    refine ⟨_, _, pre54 _ (retN X50 hx (t := .boolean) Bd.returns (by simp) (hb hby at_44) (hnr ▸ hr)), hrun, hended, _, _, rfl, ?_, ⟨_, rfl⟩, hW, hsame.mono (by decide) (by decide)⟩
    show QL Z p1 w0 w1 w2 w3 w4 w5 w6 w7 w8 w9 w10 h0 n0 _ T50.heap _
    rw [e50]
    exact ⟨rfl, N50⟩
  · have pre55 : Go p e below s₁ (mkF m 9 #[.val (.int p1), .val (.int (4 : Int32)), .unset, .unset] [(.int (4 : Int32))]) s₁ (entryFrame m #[(.int p1)] maxLocals) := fun t k => pre1 t (by
        show Steps p.tables e below (s₁.setTop (mkF m 7 #[.val (.int p1), .unset, .unset, .unset] [(.int ((p1 &&& (2147483647 : Int32)) % (11 : Int32)))])) t
        refine XS.istoreN X0.here hx rfl (hb hby at_7) rfl (l' := #[.val (.int p1), .val (.int (4 : Int32)), .unset, .unset]) (by rw [hv2_4]; rfl) ?_
        show Steps p.tables e below (s₁.setTop (mkF m 8 #[.val (.int p1), .val (.int (4 : Int32)), .unset, .unset] [])) t
        refine XS.iloadN X0.here hx rfl (hb hby at_8) rfl ?_
        exact k)
    obtain ⟨_, _, ⟨T56, L56, k56, n56⟩, -, X56, ⟨Lc56, hQ56, l56, y56, z56⟩, st56⟩ := Jvm.LawKit.callS X0 hx (y := (⟨"com/example/tiro/tiro/vault/DataTypeIsLookupPinLaw", "pick", "(I)Lcom/example/tiro/tiro/vault/DataType;"⟩ : MethodName)) hown (mvT hZ (hw _ (List.mem_of_getElem? (i := 1) rfl))) (mvT hZ (hw _ (List.mem_of_getElem? (i := 2) rfl))) (mvT hZ (hw _ (List.mem_of_getElem? (i := 3) rfl))) (mvT hZ (hw _ (List.mem_of_getElem? (i := 4) rfl))) (by decide) (backOf (W := 0) (rmP l Z a0 hw [] (4 : Int32) w0 w1 w2 w3 w4 w5 w6 w7 w8 w9 w10 w4 h0 n0 Z0 S0 S1 S2 S3 S4 S5 S6 S7 S8 S9 S10 (by simp [pickF])) hZ (hw _ (List.mem_of_getElem? (i := 4) rfl)) (hw _ (List.mem_of_getElem? (i := 3) rfl)) (by decide) (by decide)) (g := (mkF m 9 #[.val (.int p1), .val (.int (4 : Int32)), .unset, .unset] [(.int (4 : Int32))])) rfl (by rw [hml]; rfl) (argsL := [(.int (4 : Int32))]) (rest := []) (lenOf pdL_0 rfl) rfl (by show 2 * 0 + _ ≤ _; exact Nat.le_of_eq rfl) (hb hby at_9) (fun _ _ => ⟨rfl, e0, (by decide : 0 + 0 ≤ _), (by decide : 0 + 0 ≤ _)⟩)
    dsimp only [Pt.U, Pt.locs, Pt.cells, Pt.slots] at X56 l56 y56 z56 st56 hQ56
    subst l56 y56 z56
    obtain ⟨rfl, N56q, hq56⟩ := hQ56
    have N56 := Fr.app N0 N56q
    have pre57 : Go p e below T56 (mkF m 12 #[.val (.int p1), .val (.int (4 : Int32)), .unset, .unset] [(.ref w4)]) s₁ (entryFrame m #[(.int p1)] maxLocals) := fun t k => pre55 t (st56 t k)
    have e56 : T56.heap = h0 := hq56
    have pre58 : Go p e below T56 (mkF m 16 #[.val (.int p1), .val (.int (4 : Int32)), .val (.ref w4), .unset] [(.int (9 : Int32)), (.int (4 : Int32))]) s₁ (entryFrame m #[(.int p1)] maxLocals) := fun t k => pre57 t (by
        show Steps p.tables e below (T56.setTop (mkF m 12 #[.val (.int p1), .val (.int (4 : Int32)), .unset, .unset] [(.ref w4)])) t
        refine XS.astoreN X56.here hx rfl (hb hby at_12) rfl rfl (l' := #[.val (.int p1), .val (.int (4 : Int32)), .val (.ref w4), .unset]) rfl ?_
        show Steps p.tables e below (T56.setTop (mkF m 13 #[.val (.int p1), .val (.int (4 : Int32)), .val (.ref w4), .unset] [])) t
        refine XS.iloadN X56.here hx rfl (hb hby at_13) rfl ?_
        show Steps p.tables e below (T56.setTop (mkF m 14 #[.val (.int p1), .val (.int (4 : Int32)), .val (.ref w4), .unset] [(.int (4 : Int32))])) t
        refine XS.bipush X56.here hx rfl (hb hby at_14) ?_
        exact k)
    have pre59 : Go p e below T56 (mkF m 19 #[.val (.int p1), .val (.int (4 : Int32)), .val (.ref w4), .unset] []) s₁ (entryFrame m #[(.int p1)] maxLocals) := fun t k => pre58 t (XS.icmpNo X56.here hx rfl (hb hby at_16) rfl (feq (by decide : ¬ ((4 : Int32) = (9 : Int32)))).1 k)
    have pre60 : Go p e below T56 (mkF m 22 #[.val (.int p1), .val (.int (4 : Int32)), .val (.ref w4), .unset] [(.int (10 : Int32)), (.int (4 : Int32))]) s₁ (entryFrame m #[(.int p1)] maxLocals) := fun t k => pre59 t (by
        show Steps p.tables e below (T56.setTop (mkF m 19 #[.val (.int p1), .val (.int (4 : Int32)), .val (.ref w4), .unset] [])) t
        refine XS.iloadN X56.here hx rfl (hb hby at_19) rfl ?_
        show Steps p.tables e below (T56.setTop (mkF m 20 #[.val (.int p1), .val (.int (4 : Int32)), .val (.ref w4), .unset] [(.int (4 : Int32))])) t
        refine XS.bipush X56.here hx rfl (hb hby at_20) ?_
        exact k)
    have pre61 : Go p e below T56 (mkF m 29 #[.val (.int p1), .val (.int (4 : Int32)), .val (.ref w4), .unset] []) s₁ (entryFrame m #[(.int p1)] maxLocals) := fun t k => pre60 t (XS.icmpYes X56.here hx rfl (pc0 := 22) (pc' := 29) rfl (hb hby at_22) rfl (feq (by decide : ¬ ((4 : Int32) = (10 : Int32)))).2 (by decide) (by decide) k)
    have pre62 : Go p e below T56 (mkF m 32 #[.val (.int p1), .val (.int (4 : Int32)), .val (.ref w4), .val (.int (0 : Int32))] [(.ref w4)]) s₁ (entryFrame m #[(.int p1)] maxLocals) := fun t k => pre61 t (by
        show Steps p.tables e below (T56.setTop (mkF m 29 #[.val (.int p1), .val (.int (4 : Int32)), .val (.ref w4), .unset] [])) t
        refine XS.iconst X56.here hx rfl (hb hby at_29) ?_
        show Steps p.tables e below (T56.setTop (mkF m 30 #[.val (.int p1), .val (.int (4 : Int32)), .val (.ref w4), .unset] [(.int (0 : Int32))])) t
        refine XS.istoreN X56.here hx rfl (hb hby at_30) rfl (l' := #[.val (.int p1), .val (.int (4 : Int32)), .val (.ref w4), .val (.int (0 : Int32))]) rfl ?_
        show Steps p.tables e below (T56.setTop (mkF m 31 #[.val (.int p1), .val (.int (4 : Int32)), .val (.ref w4), .val (.int (0 : Int32))] [])) t
        refine XS.aloadN X56.here hx rfl (hb hby at_31) rfl rfl ?_
        exact k)
    obtain ⟨cq63, kq63, q63a, q63b, q63c⟩ := isOf hZ e56 E4
    obtain ⟨_, _, ⟨T63, L63, k63, n63⟩, -, X63, ⟨Lc63, hQ63, l63, y63, z63⟩, st63⟩ := X56.virtualBack hx (y := (⟨"com/example/tiro/tiro/vault/DataType", "isLookup", "()Z"⟩ : MethodName)) (z := (⟨"com/example/tiro/tiro/vault/DataType", "isLookup", "()Z"⟩ : MethodName)) hown (mvT hZ (hw _ (List.mem_of_getElem? (i := 8) rfl))) (mvT hZ (hw _ (List.mem_of_getElem? (i := 9) rfl))) (notFace_of_selects (args := #[]) (mvT hZ (hw _ (List.mem_of_getElem? (i := 11) rfl)))) (mvT hZ (hw _ (List.mem_of_getElem? (i := 11) rfl))) (mvT hZ (hw _ (List.mem_of_getElem? (i := 10) rfl))) (by decide) (backOf (W := 0) (rmF l Z a0 hw [] w4 w9 w10 0 h0 n0 Z0 S9 S10 (by simp [testF, d4_9, d4_10])) hZ (hw _ (List.mem_of_getElem? (i := 12) rfl)) (hw _ (List.mem_of_getElem? (i := 6) rfl)) (by decide) (by decide)) q63a q63c (g := (mkF m 32 #[.val (.int p1), .val (.int (4 : Int32)), .val (.ref w4), .val (.int (0 : Int32))] [(.ref w4)])) rfl (by rw [hml]; rfl) (Steps.refl _) (argsL := []) (rest := []) (lenOf pdL_1 rfl) rfl (by show 2 * 0 + _ ≤ _; exact Nat.le_of_eq rfl) (hb hby at_32) (fun _ _ => ⟨rfl, e56, (by decide : 0 + 0 ≤ _), (by decide : 0 + 0 ≤ _)⟩)
    dsimp only [Pt.U, Pt.locs, Pt.cells, Pt.slots] at X63 l63 y63 z63 st63 hQ63
    subst l63 y63 z63
    obtain ⟨rfl, N63q, hq63⟩ := hQ63
    have N63 := Fr.app N56 N63q
    have pre64 : Go p e below T63 (mkF m 35 #[.val (.int p1), .val (.int (4 : Int32)), .val (.ref w4), .val (.int (0 : Int32))] [(.int (0 : Int32))]) s₁ (entryFrame m #[(.int p1)] maxLocals) := fun t k => pre62 t (st63.trans k)
    have e63 : T63.heap = h0 := hq63
    have pre65 : Go p e below T63 (mkF m 36 #[.val (.int p1), .val (.int (4 : Int32)), .val (.ref w4), .val (.int (0 : Int32))] [(.int (0 : Int32)), (.int (0 : Int32))]) s₁ (entryFrame m #[(.int p1)] maxLocals) := fun t k => pre64 t (by
        show Steps p.tables e below (T63.setTop (mkF m 35 #[.val (.int p1), .val (.int (4 : Int32)), .val (.ref w4), .val (.int (0 : Int32))] [(.int (0 : Int32))])) t
        refine XS.iloadN X63.here hx rfl (hb hby at_35) rfl ?_
        exact k)
    have pre66 : Go p e below T63 (mkF m 39 #[.val (.int p1), .val (.int (4 : Int32)), .val (.ref w4), .val (.int (0 : Int32))] []) s₁ (entryFrame m #[(.int p1)] maxLocals) := fun t k => pre65 t (XS.icmpNo X63.here hx rfl (hb hby at_36) rfl (teq (by decide : (0 : Int32) = (0 : Int32))).2 k)
    have pre67 : Go p e below T63 (mkF m 44 #[.val (.int p1), .val (.int (4 : Int32)), .val (.ref w4), .val (.int (0 : Int32))] [(.int (1 : Int32))]) s₁ (entryFrame m #[(.int p1)] maxLocals) := fun t k => pre66 t (by
        show Steps p.tables e below (T63.setTop (mkF m 39 #[.val (.int p1), .val (.int (4 : Int32)), .val (.ref w4), .val (.int (0 : Int32))] [])) t
        refine XS.iconst X63.here hx rfl (hb hby at_39) ?_
        show Steps p.tables e below (T63.setTop (mkF m 40 #[.val (.int p1), .val (.int (4 : Int32)), .val (.ref w4), .val (.int (0 : Int32))] [(.int (1 : Int32))])) t
        refine XS.goto X63.here hx rfl (pc0 := 40) (pc' := 44) rfl (hb hby at_40) (by decide) (by decide) ?_
        exact k)
    have hnr : Value.int (nar .boolean (1 : Int32)) = (.int (1 : Int32)) := by rfl
    obtain ⟨fs, hr, hrun, hended, hW, hsame⟩ := X63.leave (v := some (.int (1 : Int32))) (fun h => by rw [Bd.returns] at h; cases h)
    refine ⟨_, _, pre67 _ (retN X63 hx (t := .boolean) Bd.returns (by simp) (hb hby at_44) (hnr ▸ hr)), hrun, hended, _, _, rfl, ?_, ⟨_, rfl⟩, hW, hsame.mono (by decide) (by decide)⟩
    show QL Z p1 w0 w1 w2 w3 w4 w5 w6 w7 w8 w9 w10 h0 n0 _ T63.heap _
    rw [e63]
    exact ⟨rfl, N63⟩
  · have pre68 : Go p e below s₁ (mkF m 9 #[.val (.int p1), .val (.int (5 : Int32)), .unset, .unset] [(.int (5 : Int32))]) s₁ (entryFrame m #[(.int p1)] maxLocals) := fun t k => pre1 t (by
        show Steps p.tables e below (s₁.setTop (mkF m 7 #[.val (.int p1), .unset, .unset, .unset] [(.int ((p1 &&& (2147483647 : Int32)) % (11 : Int32)))])) t
        refine XS.istoreN X0.here hx rfl (hb hby at_7) rfl (l' := #[.val (.int p1), .val (.int (5 : Int32)), .unset, .unset]) (by rw [hv2_5]; rfl) ?_
        show Steps p.tables e below (s₁.setTop (mkF m 8 #[.val (.int p1), .val (.int (5 : Int32)), .unset, .unset] [])) t
        refine XS.iloadN X0.here hx rfl (hb hby at_8) rfl ?_
        exact k)
    obtain ⟨_, _, ⟨T69, L69, k69, n69⟩, -, X69, ⟨Lc69, hQ69, l69, y69, z69⟩, st69⟩ := Jvm.LawKit.callS X0 hx (y := (⟨"com/example/tiro/tiro/vault/DataTypeIsLookupPinLaw", "pick", "(I)Lcom/example/tiro/tiro/vault/DataType;"⟩ : MethodName)) hown (mvT hZ (hw _ (List.mem_of_getElem? (i := 1) rfl))) (mvT hZ (hw _ (List.mem_of_getElem? (i := 2) rfl))) (mvT hZ (hw _ (List.mem_of_getElem? (i := 3) rfl))) (mvT hZ (hw _ (List.mem_of_getElem? (i := 4) rfl))) (by decide) (backOf (W := 0) (rmP l Z a0 hw [] (5 : Int32) w0 w1 w2 w3 w4 w5 w6 w7 w8 w9 w10 w5 h0 n0 Z0 S0 S1 S2 S3 S4 S5 S6 S7 S8 S9 S10 (by simp [pickF])) hZ (hw _ (List.mem_of_getElem? (i := 4) rfl)) (hw _ (List.mem_of_getElem? (i := 3) rfl)) (by decide) (by decide)) (g := (mkF m 9 #[.val (.int p1), .val (.int (5 : Int32)), .unset, .unset] [(.int (5 : Int32))])) rfl (by rw [hml]; rfl) (argsL := [(.int (5 : Int32))]) (rest := []) (lenOf pdL_0 rfl) rfl (by show 2 * 0 + _ ≤ _; exact Nat.le_of_eq rfl) (hb hby at_9) (fun _ _ => ⟨rfl, e0, (by decide : 0 + 0 ≤ _), (by decide : 0 + 0 ≤ _)⟩)
    dsimp only [Pt.U, Pt.locs, Pt.cells, Pt.slots] at X69 l69 y69 z69 st69 hQ69
    subst l69 y69 z69
    obtain ⟨rfl, N69q, hq69⟩ := hQ69
    have N69 := Fr.app N0 N69q
    have pre70 : Go p e below T69 (mkF m 12 #[.val (.int p1), .val (.int (5 : Int32)), .unset, .unset] [(.ref w5)]) s₁ (entryFrame m #[(.int p1)] maxLocals) := fun t k => pre68 t (st69 t k)
    have e69 : T69.heap = h0 := hq69
    have pre71 : Go p e below T69 (mkF m 16 #[.val (.int p1), .val (.int (5 : Int32)), .val (.ref w5), .unset] [(.int (9 : Int32)), (.int (5 : Int32))]) s₁ (entryFrame m #[(.int p1)] maxLocals) := fun t k => pre70 t (by
        show Steps p.tables e below (T69.setTop (mkF m 12 #[.val (.int p1), .val (.int (5 : Int32)), .unset, .unset] [(.ref w5)])) t
        refine XS.astoreN X69.here hx rfl (hb hby at_12) rfl rfl (l' := #[.val (.int p1), .val (.int (5 : Int32)), .val (.ref w5), .unset]) rfl ?_
        show Steps p.tables e below (T69.setTop (mkF m 13 #[.val (.int p1), .val (.int (5 : Int32)), .val (.ref w5), .unset] [])) t
        refine XS.iloadN X69.here hx rfl (hb hby at_13) rfl ?_
        show Steps p.tables e below (T69.setTop (mkF m 14 #[.val (.int p1), .val (.int (5 : Int32)), .val (.ref w5), .unset] [(.int (5 : Int32))])) t
        refine XS.bipush X69.here hx rfl (hb hby at_14) ?_
        exact k)
    have pre72 : Go p e below T69 (mkF m 19 #[.val (.int p1), .val (.int (5 : Int32)), .val (.ref w5), .unset] []) s₁ (entryFrame m #[(.int p1)] maxLocals) := fun t k => pre71 t (XS.icmpNo X69.here hx rfl (hb hby at_16) rfl (feq (by decide : ¬ ((5 : Int32) = (9 : Int32)))).1 k)
    have pre73 : Go p e below T69 (mkF m 22 #[.val (.int p1), .val (.int (5 : Int32)), .val (.ref w5), .unset] [(.int (10 : Int32)), (.int (5 : Int32))]) s₁ (entryFrame m #[(.int p1)] maxLocals) := fun t k => pre72 t (by
        show Steps p.tables e below (T69.setTop (mkF m 19 #[.val (.int p1), .val (.int (5 : Int32)), .val (.ref w5), .unset] [])) t
        refine XS.iloadN X69.here hx rfl (hb hby at_19) rfl ?_
        show Steps p.tables e below (T69.setTop (mkF m 20 #[.val (.int p1), .val (.int (5 : Int32)), .val (.ref w5), .unset] [(.int (5 : Int32))])) t
        refine XS.bipush X69.here hx rfl (hb hby at_20) ?_
        exact k)
    have pre74 : Go p e below T69 (mkF m 29 #[.val (.int p1), .val (.int (5 : Int32)), .val (.ref w5), .unset] []) s₁ (entryFrame m #[(.int p1)] maxLocals) := fun t k => pre73 t (XS.icmpYes X69.here hx rfl (pc0 := 22) (pc' := 29) rfl (hb hby at_22) rfl (feq (by decide : ¬ ((5 : Int32) = (10 : Int32)))).2 (by decide) (by decide) k)
    have pre75 : Go p e below T69 (mkF m 32 #[.val (.int p1), .val (.int (5 : Int32)), .val (.ref w5), .val (.int (0 : Int32))] [(.ref w5)]) s₁ (entryFrame m #[(.int p1)] maxLocals) := fun t k => pre74 t (by
        show Steps p.tables e below (T69.setTop (mkF m 29 #[.val (.int p1), .val (.int (5 : Int32)), .val (.ref w5), .unset] [])) t
        refine XS.iconst X69.here hx rfl (hb hby at_29) ?_
        show Steps p.tables e below (T69.setTop (mkF m 30 #[.val (.int p1), .val (.int (5 : Int32)), .val (.ref w5), .unset] [(.int (0 : Int32))])) t
        refine XS.istoreN X69.here hx rfl (hb hby at_30) rfl (l' := #[.val (.int p1), .val (.int (5 : Int32)), .val (.ref w5), .val (.int (0 : Int32))]) rfl ?_
        show Steps p.tables e below (T69.setTop (mkF m 31 #[.val (.int p1), .val (.int (5 : Int32)), .val (.ref w5), .val (.int (0 : Int32))] [])) t
        refine XS.aloadN X69.here hx rfl (hb hby at_31) rfl rfl ?_
        exact k)
    obtain ⟨cq76, kq76, q76a, q76b, q76c⟩ := isOf hZ e69 E5
    obtain ⟨_, _, ⟨T76, L76, k76, n76⟩, -, X76, ⟨Lc76, hQ76, l76, y76, z76⟩, st76⟩ := X69.virtualBack hx (y := (⟨"com/example/tiro/tiro/vault/DataType", "isLookup", "()Z"⟩ : MethodName)) (z := (⟨"com/example/tiro/tiro/vault/DataType", "isLookup", "()Z"⟩ : MethodName)) hown (mvT hZ (hw _ (List.mem_of_getElem? (i := 8) rfl))) (mvT hZ (hw _ (List.mem_of_getElem? (i := 9) rfl))) (notFace_of_selects (args := #[]) (mvT hZ (hw _ (List.mem_of_getElem? (i := 11) rfl)))) (mvT hZ (hw _ (List.mem_of_getElem? (i := 11) rfl))) (mvT hZ (hw _ (List.mem_of_getElem? (i := 10) rfl))) (by decide) (backOf (W := 0) (rmF l Z a0 hw [] w5 w9 w10 0 h0 n0 Z0 S9 S10 (by simp [testF, d5_9, d5_10])) hZ (hw _ (List.mem_of_getElem? (i := 12) rfl)) (hw _ (List.mem_of_getElem? (i := 6) rfl)) (by decide) (by decide)) q76a q76c (g := (mkF m 32 #[.val (.int p1), .val (.int (5 : Int32)), .val (.ref w5), .val (.int (0 : Int32))] [(.ref w5)])) rfl (by rw [hml]; rfl) (Steps.refl _) (argsL := []) (rest := []) (lenOf pdL_1 rfl) rfl (by show 2 * 0 + _ ≤ _; exact Nat.le_of_eq rfl) (hb hby at_32) (fun _ _ => ⟨rfl, e69, (by decide : 0 + 0 ≤ _), (by decide : 0 + 0 ≤ _)⟩)
    dsimp only [Pt.U, Pt.locs, Pt.cells, Pt.slots] at X76 l76 y76 z76 st76 hQ76
    subst l76 y76 z76
    obtain ⟨rfl, N76q, hq76⟩ := hQ76
    have N76 := Fr.app N69 N76q
    have pre77 : Go p e below T76 (mkF m 35 #[.val (.int p1), .val (.int (5 : Int32)), .val (.ref w5), .val (.int (0 : Int32))] [(.int (0 : Int32))]) s₁ (entryFrame m #[(.int p1)] maxLocals) := fun t k => pre75 t (st76.trans k)
    have e76 : T76.heap = h0 := hq76
    have pre78 : Go p e below T76 (mkF m 36 #[.val (.int p1), .val (.int (5 : Int32)), .val (.ref w5), .val (.int (0 : Int32))] [(.int (0 : Int32)), (.int (0 : Int32))]) s₁ (entryFrame m #[(.int p1)] maxLocals) := fun t k => pre77 t (by
        show Steps p.tables e below (T76.setTop (mkF m 35 #[.val (.int p1), .val (.int (5 : Int32)), .val (.ref w5), .val (.int (0 : Int32))] [(.int (0 : Int32))])) t
        refine XS.iloadN X76.here hx rfl (hb hby at_35) rfl ?_
        exact k)
    have pre79 : Go p e below T76 (mkF m 39 #[.val (.int p1), .val (.int (5 : Int32)), .val (.ref w5), .val (.int (0 : Int32))] []) s₁ (entryFrame m #[(.int p1)] maxLocals) := fun t k => pre78 t (XS.icmpNo X76.here hx rfl (hb hby at_36) rfl (teq (by decide : (0 : Int32) = (0 : Int32))).2 k)
    have pre80 : Go p e below T76 (mkF m 44 #[.val (.int p1), .val (.int (5 : Int32)), .val (.ref w5), .val (.int (0 : Int32))] [(.int (1 : Int32))]) s₁ (entryFrame m #[(.int p1)] maxLocals) := fun t k => pre79 t (by
        show Steps p.tables e below (T76.setTop (mkF m 39 #[.val (.int p1), .val (.int (5 : Int32)), .val (.ref w5), .val (.int (0 : Int32))] [])) t
        refine XS.iconst X76.here hx rfl (hb hby at_39) ?_
        show Steps p.tables e below (T76.setTop (mkF m 40 #[.val (.int p1), .val (.int (5 : Int32)), .val (.ref w5), .val (.int (0 : Int32))] [(.int (1 : Int32))])) t
        refine XS.goto X76.here hx rfl (pc0 := 40) (pc' := 44) rfl (hb hby at_40) (by decide) (by decide) ?_
        exact k)
    have hnr : Value.int (nar .boolean (1 : Int32)) = (.int (1 : Int32)) := by rfl
    obtain ⟨fs, hr, hrun, hended, hW, hsame⟩ := X76.leave (v := some (.int (1 : Int32))) (fun h => by rw [Bd.returns] at h; cases h)
    refine ⟨_, _, pre80 _ (retN X76 hx (t := .boolean) Bd.returns (by simp) (hb hby at_44) (hnr ▸ hr)), hrun, hended, _, _, rfl, ?_, ⟨_, rfl⟩, hW, hsame.mono (by decide) (by decide)⟩
    show QL Z p1 w0 w1 w2 w3 w4 w5 w6 w7 w8 w9 w10 h0 n0 _ T76.heap _
    rw [e76]
    exact ⟨rfl, N76⟩
  · have pre81 : Go p e below s₁ (mkF m 9 #[.val (.int p1), .val (.int (6 : Int32)), .unset, .unset] [(.int (6 : Int32))]) s₁ (entryFrame m #[(.int p1)] maxLocals) := fun t k => pre1 t (by
        show Steps p.tables e below (s₁.setTop (mkF m 7 #[.val (.int p1), .unset, .unset, .unset] [(.int ((p1 &&& (2147483647 : Int32)) % (11 : Int32)))])) t
        refine XS.istoreN X0.here hx rfl (hb hby at_7) rfl (l' := #[.val (.int p1), .val (.int (6 : Int32)), .unset, .unset]) (by rw [hv2_6]; rfl) ?_
        show Steps p.tables e below (s₁.setTop (mkF m 8 #[.val (.int p1), .val (.int (6 : Int32)), .unset, .unset] [])) t
        refine XS.iloadN X0.here hx rfl (hb hby at_8) rfl ?_
        exact k)
    obtain ⟨_, _, ⟨T82, L82, k82, n82⟩, -, X82, ⟨Lc82, hQ82, l82, y82, z82⟩, st82⟩ := Jvm.LawKit.callS X0 hx (y := (⟨"com/example/tiro/tiro/vault/DataTypeIsLookupPinLaw", "pick", "(I)Lcom/example/tiro/tiro/vault/DataType;"⟩ : MethodName)) hown (mvT hZ (hw _ (List.mem_of_getElem? (i := 1) rfl))) (mvT hZ (hw _ (List.mem_of_getElem? (i := 2) rfl))) (mvT hZ (hw _ (List.mem_of_getElem? (i := 3) rfl))) (mvT hZ (hw _ (List.mem_of_getElem? (i := 4) rfl))) (by decide) (backOf (W := 0) (rmP l Z a0 hw [] (6 : Int32) w0 w1 w2 w3 w4 w5 w6 w7 w8 w9 w10 w6 h0 n0 Z0 S0 S1 S2 S3 S4 S5 S6 S7 S8 S9 S10 (by simp [pickF])) hZ (hw _ (List.mem_of_getElem? (i := 4) rfl)) (hw _ (List.mem_of_getElem? (i := 3) rfl)) (by decide) (by decide)) (g := (mkF m 9 #[.val (.int p1), .val (.int (6 : Int32)), .unset, .unset] [(.int (6 : Int32))])) rfl (by rw [hml]; rfl) (argsL := [(.int (6 : Int32))]) (rest := []) (lenOf pdL_0 rfl) rfl (by show 2 * 0 + _ ≤ _; exact Nat.le_of_eq rfl) (hb hby at_9) (fun _ _ => ⟨rfl, e0, (by decide : 0 + 0 ≤ _), (by decide : 0 + 0 ≤ _)⟩)
    dsimp only [Pt.U, Pt.locs, Pt.cells, Pt.slots] at X82 l82 y82 z82 st82 hQ82
    subst l82 y82 z82
    obtain ⟨rfl, N82q, hq82⟩ := hQ82
    have N82 := Fr.app N0 N82q
    have pre83 : Go p e below T82 (mkF m 12 #[.val (.int p1), .val (.int (6 : Int32)), .unset, .unset] [(.ref w6)]) s₁ (entryFrame m #[(.int p1)] maxLocals) := fun t k => pre81 t (st82 t k)
    have e82 : T82.heap = h0 := hq82
    have pre84 : Go p e below T82 (mkF m 16 #[.val (.int p1), .val (.int (6 : Int32)), .val (.ref w6), .unset] [(.int (9 : Int32)), (.int (6 : Int32))]) s₁ (entryFrame m #[(.int p1)] maxLocals) := fun t k => pre83 t (by
        show Steps p.tables e below (T82.setTop (mkF m 12 #[.val (.int p1), .val (.int (6 : Int32)), .unset, .unset] [(.ref w6)])) t
        refine XS.astoreN X82.here hx rfl (hb hby at_12) rfl rfl (l' := #[.val (.int p1), .val (.int (6 : Int32)), .val (.ref w6), .unset]) rfl ?_
        show Steps p.tables e below (T82.setTop (mkF m 13 #[.val (.int p1), .val (.int (6 : Int32)), .val (.ref w6), .unset] [])) t
        refine XS.iloadN X82.here hx rfl (hb hby at_13) rfl ?_
        show Steps p.tables e below (T82.setTop (mkF m 14 #[.val (.int p1), .val (.int (6 : Int32)), .val (.ref w6), .unset] [(.int (6 : Int32))])) t
        refine XS.bipush X82.here hx rfl (hb hby at_14) ?_
        exact k)
    have pre85 : Go p e below T82 (mkF m 19 #[.val (.int p1), .val (.int (6 : Int32)), .val (.ref w6), .unset] []) s₁ (entryFrame m #[(.int p1)] maxLocals) := fun t k => pre84 t (XS.icmpNo X82.here hx rfl (hb hby at_16) rfl (feq (by decide : ¬ ((6 : Int32) = (9 : Int32)))).1 k)
    have pre86 : Go p e below T82 (mkF m 22 #[.val (.int p1), .val (.int (6 : Int32)), .val (.ref w6), .unset] [(.int (10 : Int32)), (.int (6 : Int32))]) s₁ (entryFrame m #[(.int p1)] maxLocals) := fun t k => pre85 t (by
        show Steps p.tables e below (T82.setTop (mkF m 19 #[.val (.int p1), .val (.int (6 : Int32)), .val (.ref w6), .unset] [])) t
        refine XS.iloadN X82.here hx rfl (hb hby at_19) rfl ?_
        show Steps p.tables e below (T82.setTop (mkF m 20 #[.val (.int p1), .val (.int (6 : Int32)), .val (.ref w6), .unset] [(.int (6 : Int32))])) t
        refine XS.bipush X82.here hx rfl (hb hby at_20) ?_
        exact k)
    have pre87 : Go p e below T82 (mkF m 29 #[.val (.int p1), .val (.int (6 : Int32)), .val (.ref w6), .unset] []) s₁ (entryFrame m #[(.int p1)] maxLocals) := fun t k => pre86 t (XS.icmpYes X82.here hx rfl (pc0 := 22) (pc' := 29) rfl (hb hby at_22) rfl (feq (by decide : ¬ ((6 : Int32) = (10 : Int32)))).2 (by decide) (by decide) k)
    have pre88 : Go p e below T82 (mkF m 32 #[.val (.int p1), .val (.int (6 : Int32)), .val (.ref w6), .val (.int (0 : Int32))] [(.ref w6)]) s₁ (entryFrame m #[(.int p1)] maxLocals) := fun t k => pre87 t (by
        show Steps p.tables e below (T82.setTop (mkF m 29 #[.val (.int p1), .val (.int (6 : Int32)), .val (.ref w6), .unset] [])) t
        refine XS.iconst X82.here hx rfl (hb hby at_29) ?_
        show Steps p.tables e below (T82.setTop (mkF m 30 #[.val (.int p1), .val (.int (6 : Int32)), .val (.ref w6), .unset] [(.int (0 : Int32))])) t
        refine XS.istoreN X82.here hx rfl (hb hby at_30) rfl (l' := #[.val (.int p1), .val (.int (6 : Int32)), .val (.ref w6), .val (.int (0 : Int32))]) rfl ?_
        show Steps p.tables e below (T82.setTop (mkF m 31 #[.val (.int p1), .val (.int (6 : Int32)), .val (.ref w6), .val (.int (0 : Int32))] [])) t
        refine XS.aloadN X82.here hx rfl (hb hby at_31) rfl rfl ?_
        exact k)
    obtain ⟨cq89, kq89, q89a, q89b, q89c⟩ := isOf hZ e82 E6
    obtain ⟨_, _, ⟨T89, L89, k89, n89⟩, -, X89, ⟨Lc89, hQ89, l89, y89, z89⟩, st89⟩ := X82.virtualBack hx (y := (⟨"com/example/tiro/tiro/vault/DataType", "isLookup", "()Z"⟩ : MethodName)) (z := (⟨"com/example/tiro/tiro/vault/DataType", "isLookup", "()Z"⟩ : MethodName)) hown (mvT hZ (hw _ (List.mem_of_getElem? (i := 8) rfl))) (mvT hZ (hw _ (List.mem_of_getElem? (i := 9) rfl))) (notFace_of_selects (args := #[]) (mvT hZ (hw _ (List.mem_of_getElem? (i := 11) rfl)))) (mvT hZ (hw _ (List.mem_of_getElem? (i := 11) rfl))) (mvT hZ (hw _ (List.mem_of_getElem? (i := 10) rfl))) (by decide) (backOf (W := 0) (rmF l Z a0 hw [] w6 w9 w10 0 h0 n0 Z0 S9 S10 (by simp [testF, d6_9, d6_10])) hZ (hw _ (List.mem_of_getElem? (i := 12) rfl)) (hw _ (List.mem_of_getElem? (i := 6) rfl)) (by decide) (by decide)) q89a q89c (g := (mkF m 32 #[.val (.int p1), .val (.int (6 : Int32)), .val (.ref w6), .val (.int (0 : Int32))] [(.ref w6)])) rfl (by rw [hml]; rfl) (Steps.refl _) (argsL := []) (rest := []) (lenOf pdL_1 rfl) rfl (by show 2 * 0 + _ ≤ _; exact Nat.le_of_eq rfl) (hb hby at_32) (fun _ _ => ⟨rfl, e82, (by decide : 0 + 0 ≤ _), (by decide : 0 + 0 ≤ _)⟩)
    dsimp only [Pt.U, Pt.locs, Pt.cells, Pt.slots] at X89 l89 y89 z89 st89 hQ89
    subst l89 y89 z89
    obtain ⟨rfl, N89q, hq89⟩ := hQ89
    have N89 := Fr.app N82 N89q
    have pre90 : Go p e below T89 (mkF m 35 #[.val (.int p1), .val (.int (6 : Int32)), .val (.ref w6), .val (.int (0 : Int32))] [(.int (0 : Int32))]) s₁ (entryFrame m #[(.int p1)] maxLocals) := fun t k => pre88 t (st89.trans k)
    have e89 : T89.heap = h0 := hq89
    have pre91 : Go p e below T89 (mkF m 36 #[.val (.int p1), .val (.int (6 : Int32)), .val (.ref w6), .val (.int (0 : Int32))] [(.int (0 : Int32)), (.int (0 : Int32))]) s₁ (entryFrame m #[(.int p1)] maxLocals) := fun t k => pre90 t (by
        show Steps p.tables e below (T89.setTop (mkF m 35 #[.val (.int p1), .val (.int (6 : Int32)), .val (.ref w6), .val (.int (0 : Int32))] [(.int (0 : Int32))])) t
        refine XS.iloadN X89.here hx rfl (hb hby at_35) rfl ?_
        exact k)
    have pre92 : Go p e below T89 (mkF m 39 #[.val (.int p1), .val (.int (6 : Int32)), .val (.ref w6), .val (.int (0 : Int32))] []) s₁ (entryFrame m #[(.int p1)] maxLocals) := fun t k => pre91 t (XS.icmpNo X89.here hx rfl (hb hby at_36) rfl (teq (by decide : (0 : Int32) = (0 : Int32))).2 k)
    have pre93 : Go p e below T89 (mkF m 44 #[.val (.int p1), .val (.int (6 : Int32)), .val (.ref w6), .val (.int (0 : Int32))] [(.int (1 : Int32))]) s₁ (entryFrame m #[(.int p1)] maxLocals) := fun t k => pre92 t (by
        show Steps p.tables e below (T89.setTop (mkF m 39 #[.val (.int p1), .val (.int (6 : Int32)), .val (.ref w6), .val (.int (0 : Int32))] [])) t
        refine XS.iconst X89.here hx rfl (hb hby at_39) ?_
        show Steps p.tables e below (T89.setTop (mkF m 40 #[.val (.int p1), .val (.int (6 : Int32)), .val (.ref w6), .val (.int (0 : Int32))] [(.int (1 : Int32))])) t
        refine XS.goto X89.here hx rfl (pc0 := 40) (pc' := 44) rfl (hb hby at_40) (by decide) (by decide) ?_
        exact k)
    have hnr : Value.int (nar .boolean (1 : Int32)) = (.int (1 : Int32)) := by rfl
    obtain ⟨fs, hr, hrun, hended, hW, hsame⟩ := X89.leave (v := some (.int (1 : Int32))) (fun h => by rw [Bd.returns] at h; cases h)
    refine ⟨_, _, pre93 _ (retN X89 hx (t := .boolean) Bd.returns (by simp) (hb hby at_44) (hnr ▸ hr)), hrun, hended, _, _, rfl, ?_, ⟨_, rfl⟩, hW, hsame.mono (by decide) (by decide)⟩
    show QL Z p1 w0 w1 w2 w3 w4 w5 w6 w7 w8 w9 w10 h0 n0 _ T89.heap _
    rw [e89]
    exact ⟨rfl, N89⟩
  · have pre94 : Go p e below s₁ (mkF m 9 #[.val (.int p1), .val (.int (7 : Int32)), .unset, .unset] [(.int (7 : Int32))]) s₁ (entryFrame m #[(.int p1)] maxLocals) := fun t k => pre1 t (by
        show Steps p.tables e below (s₁.setTop (mkF m 7 #[.val (.int p1), .unset, .unset, .unset] [(.int ((p1 &&& (2147483647 : Int32)) % (11 : Int32)))])) t
        refine XS.istoreN X0.here hx rfl (hb hby at_7) rfl (l' := #[.val (.int p1), .val (.int (7 : Int32)), .unset, .unset]) (by rw [hv2_7]; rfl) ?_
        show Steps p.tables e below (s₁.setTop (mkF m 8 #[.val (.int p1), .val (.int (7 : Int32)), .unset, .unset] [])) t
        refine XS.iloadN X0.here hx rfl (hb hby at_8) rfl ?_
        exact k)
    obtain ⟨_, _, ⟨T95, L95, k95, n95⟩, -, X95, ⟨Lc95, hQ95, l95, y95, z95⟩, st95⟩ := Jvm.LawKit.callS X0 hx (y := (⟨"com/example/tiro/tiro/vault/DataTypeIsLookupPinLaw", "pick", "(I)Lcom/example/tiro/tiro/vault/DataType;"⟩ : MethodName)) hown (mvT hZ (hw _ (List.mem_of_getElem? (i := 1) rfl))) (mvT hZ (hw _ (List.mem_of_getElem? (i := 2) rfl))) (mvT hZ (hw _ (List.mem_of_getElem? (i := 3) rfl))) (mvT hZ (hw _ (List.mem_of_getElem? (i := 4) rfl))) (by decide) (backOf (W := 0) (rmP l Z a0 hw [] (7 : Int32) w0 w1 w2 w3 w4 w5 w6 w7 w8 w9 w10 w7 h0 n0 Z0 S0 S1 S2 S3 S4 S5 S6 S7 S8 S9 S10 (by simp [pickF])) hZ (hw _ (List.mem_of_getElem? (i := 4) rfl)) (hw _ (List.mem_of_getElem? (i := 3) rfl)) (by decide) (by decide)) (g := (mkF m 9 #[.val (.int p1), .val (.int (7 : Int32)), .unset, .unset] [(.int (7 : Int32))])) rfl (by rw [hml]; rfl) (argsL := [(.int (7 : Int32))]) (rest := []) (lenOf pdL_0 rfl) rfl (by show 2 * 0 + _ ≤ _; exact Nat.le_of_eq rfl) (hb hby at_9) (fun _ _ => ⟨rfl, e0, (by decide : 0 + 0 ≤ _), (by decide : 0 + 0 ≤ _)⟩)
    dsimp only [Pt.U, Pt.locs, Pt.cells, Pt.slots] at X95 l95 y95 z95 st95 hQ95
    subst l95 y95 z95
    obtain ⟨rfl, N95q, hq95⟩ := hQ95
    have N95 := Fr.app N0 N95q
    have pre96 : Go p e below T95 (mkF m 12 #[.val (.int p1), .val (.int (7 : Int32)), .unset, .unset] [(.ref w7)]) s₁ (entryFrame m #[(.int p1)] maxLocals) := fun t k => pre94 t (st95 t k)
    have e95 : T95.heap = h0 := hq95
    have pre97 : Go p e below T95 (mkF m 16 #[.val (.int p1), .val (.int (7 : Int32)), .val (.ref w7), .unset] [(.int (9 : Int32)), (.int (7 : Int32))]) s₁ (entryFrame m #[(.int p1)] maxLocals) := fun t k => pre96 t (by
        show Steps p.tables e below (T95.setTop (mkF m 12 #[.val (.int p1), .val (.int (7 : Int32)), .unset, .unset] [(.ref w7)])) t
        refine XS.astoreN X95.here hx rfl (hb hby at_12) rfl rfl (l' := #[.val (.int p1), .val (.int (7 : Int32)), .val (.ref w7), .unset]) rfl ?_
        show Steps p.tables e below (T95.setTop (mkF m 13 #[.val (.int p1), .val (.int (7 : Int32)), .val (.ref w7), .unset] [])) t
        refine XS.iloadN X95.here hx rfl (hb hby at_13) rfl ?_
        show Steps p.tables e below (T95.setTop (mkF m 14 #[.val (.int p1), .val (.int (7 : Int32)), .val (.ref w7), .unset] [(.int (7 : Int32))])) t
        refine XS.bipush X95.here hx rfl (hb hby at_14) ?_
        exact k)
    have pre98 : Go p e below T95 (mkF m 19 #[.val (.int p1), .val (.int (7 : Int32)), .val (.ref w7), .unset] []) s₁ (entryFrame m #[(.int p1)] maxLocals) := fun t k => pre97 t (XS.icmpNo X95.here hx rfl (hb hby at_16) rfl (feq (by decide : ¬ ((7 : Int32) = (9 : Int32)))).1 k)
    have pre99 : Go p e below T95 (mkF m 22 #[.val (.int p1), .val (.int (7 : Int32)), .val (.ref w7), .unset] [(.int (10 : Int32)), (.int (7 : Int32))]) s₁ (entryFrame m #[(.int p1)] maxLocals) := fun t k => pre98 t (by
        show Steps p.tables e below (T95.setTop (mkF m 19 #[.val (.int p1), .val (.int (7 : Int32)), .val (.ref w7), .unset] [])) t
        refine XS.iloadN X95.here hx rfl (hb hby at_19) rfl ?_
        show Steps p.tables e below (T95.setTop (mkF m 20 #[.val (.int p1), .val (.int (7 : Int32)), .val (.ref w7), .unset] [(.int (7 : Int32))])) t
        refine XS.bipush X95.here hx rfl (hb hby at_20) ?_
        exact k)
    have pre100 : Go p e below T95 (mkF m 29 #[.val (.int p1), .val (.int (7 : Int32)), .val (.ref w7), .unset] []) s₁ (entryFrame m #[(.int p1)] maxLocals) := fun t k => pre99 t (XS.icmpYes X95.here hx rfl (pc0 := 22) (pc' := 29) rfl (hb hby at_22) rfl (feq (by decide : ¬ ((7 : Int32) = (10 : Int32)))).2 (by decide) (by decide) k)
    have pre101 : Go p e below T95 (mkF m 32 #[.val (.int p1), .val (.int (7 : Int32)), .val (.ref w7), .val (.int (0 : Int32))] [(.ref w7)]) s₁ (entryFrame m #[(.int p1)] maxLocals) := fun t k => pre100 t (by
        show Steps p.tables e below (T95.setTop (mkF m 29 #[.val (.int p1), .val (.int (7 : Int32)), .val (.ref w7), .unset] [])) t
        refine XS.iconst X95.here hx rfl (hb hby at_29) ?_
        show Steps p.tables e below (T95.setTop (mkF m 30 #[.val (.int p1), .val (.int (7 : Int32)), .val (.ref w7), .unset] [(.int (0 : Int32))])) t
        refine XS.istoreN X95.here hx rfl (hb hby at_30) rfl (l' := #[.val (.int p1), .val (.int (7 : Int32)), .val (.ref w7), .val (.int (0 : Int32))]) rfl ?_
        show Steps p.tables e below (T95.setTop (mkF m 31 #[.val (.int p1), .val (.int (7 : Int32)), .val (.ref w7), .val (.int (0 : Int32))] [])) t
        refine XS.aloadN X95.here hx rfl (hb hby at_31) rfl rfl ?_
        exact k)
    obtain ⟨cq102, kq102, q102a, q102b, q102c⟩ := isOf hZ e95 E7
    obtain ⟨_, _, ⟨T102, L102, k102, n102⟩, -, X102, ⟨Lc102, hQ102, l102, y102, z102⟩, st102⟩ := X95.virtualBack hx (y := (⟨"com/example/tiro/tiro/vault/DataType", "isLookup", "()Z"⟩ : MethodName)) (z := (⟨"com/example/tiro/tiro/vault/DataType", "isLookup", "()Z"⟩ : MethodName)) hown (mvT hZ (hw _ (List.mem_of_getElem? (i := 8) rfl))) (mvT hZ (hw _ (List.mem_of_getElem? (i := 9) rfl))) (notFace_of_selects (args := #[]) (mvT hZ (hw _ (List.mem_of_getElem? (i := 11) rfl)))) (mvT hZ (hw _ (List.mem_of_getElem? (i := 11) rfl))) (mvT hZ (hw _ (List.mem_of_getElem? (i := 10) rfl))) (by decide) (backOf (W := 0) (rmF l Z a0 hw [] w7 w9 w10 0 h0 n0 Z0 S9 S10 (by simp [testF, d7_9, d7_10])) hZ (hw _ (List.mem_of_getElem? (i := 12) rfl)) (hw _ (List.mem_of_getElem? (i := 6) rfl)) (by decide) (by decide)) q102a q102c (g := (mkF m 32 #[.val (.int p1), .val (.int (7 : Int32)), .val (.ref w7), .val (.int (0 : Int32))] [(.ref w7)])) rfl (by rw [hml]; rfl) (Steps.refl _) (argsL := []) (rest := []) (lenOf pdL_1 rfl) rfl (by show 2 * 0 + _ ≤ _; exact Nat.le_of_eq rfl) (hb hby at_32) (fun _ _ => ⟨rfl, e95, (by decide : 0 + 0 ≤ _), (by decide : 0 + 0 ≤ _)⟩)
    dsimp only [Pt.U, Pt.locs, Pt.cells, Pt.slots] at X102 l102 y102 z102 st102 hQ102
    subst l102 y102 z102
    obtain ⟨rfl, N102q, hq102⟩ := hQ102
    have N102 := Fr.app N95 N102q
    have pre103 : Go p e below T102 (mkF m 35 #[.val (.int p1), .val (.int (7 : Int32)), .val (.ref w7), .val (.int (0 : Int32))] [(.int (0 : Int32))]) s₁ (entryFrame m #[(.int p1)] maxLocals) := fun t k => pre101 t (st102.trans k)
    have e102 : T102.heap = h0 := hq102
    have pre104 : Go p e below T102 (mkF m 36 #[.val (.int p1), .val (.int (7 : Int32)), .val (.ref w7), .val (.int (0 : Int32))] [(.int (0 : Int32)), (.int (0 : Int32))]) s₁ (entryFrame m #[(.int p1)] maxLocals) := fun t k => pre103 t (by
        show Steps p.tables e below (T102.setTop (mkF m 35 #[.val (.int p1), .val (.int (7 : Int32)), .val (.ref w7), .val (.int (0 : Int32))] [(.int (0 : Int32))])) t
        refine XS.iloadN X102.here hx rfl (hb hby at_35) rfl ?_
        exact k)
    have pre105 : Go p e below T102 (mkF m 39 #[.val (.int p1), .val (.int (7 : Int32)), .val (.ref w7), .val (.int (0 : Int32))] []) s₁ (entryFrame m #[(.int p1)] maxLocals) := fun t k => pre104 t (XS.icmpNo X102.here hx rfl (hb hby at_36) rfl (teq (by decide : (0 : Int32) = (0 : Int32))).2 k)
    have pre106 : Go p e below T102 (mkF m 44 #[.val (.int p1), .val (.int (7 : Int32)), .val (.ref w7), .val (.int (0 : Int32))] [(.int (1 : Int32))]) s₁ (entryFrame m #[(.int p1)] maxLocals) := fun t k => pre105 t (by
        show Steps p.tables e below (T102.setTop (mkF m 39 #[.val (.int p1), .val (.int (7 : Int32)), .val (.ref w7), .val (.int (0 : Int32))] [])) t
        refine XS.iconst X102.here hx rfl (hb hby at_39) ?_
        show Steps p.tables e below (T102.setTop (mkF m 40 #[.val (.int p1), .val (.int (7 : Int32)), .val (.ref w7), .val (.int (0 : Int32))] [(.int (1 : Int32))])) t
        refine XS.goto X102.here hx rfl (pc0 := 40) (pc' := 44) rfl (hb hby at_40) (by decide) (by decide) ?_
        exact k)
    have hnr : Value.int (nar .boolean (1 : Int32)) = (.int (1 : Int32)) := by rfl
    obtain ⟨fs, hr, hrun, hended, hW, hsame⟩ := X102.leave (v := some (.int (1 : Int32))) (fun h => by rw [Bd.returns] at h; cases h)
    refine ⟨_, _, pre106 _ (retN X102 hx (t := .boolean) Bd.returns (by simp) (hb hby at_44) (hnr ▸ hr)), hrun, hended, _, _, rfl, ?_, ⟨_, rfl⟩, hW, hsame.mono (by decide) (by decide)⟩
    show QL Z p1 w0 w1 w2 w3 w4 w5 w6 w7 w8 w9 w10 h0 n0 _ T102.heap _
    rw [e102]
    exact ⟨rfl, N102⟩
  · have pre107 : Go p e below s₁ (mkF m 9 #[.val (.int p1), .val (.int (8 : Int32)), .unset, .unset] [(.int (8 : Int32))]) s₁ (entryFrame m #[(.int p1)] maxLocals) := fun t k => pre1 t (by
        show Steps p.tables e below (s₁.setTop (mkF m 7 #[.val (.int p1), .unset, .unset, .unset] [(.int ((p1 &&& (2147483647 : Int32)) % (11 : Int32)))])) t
        refine XS.istoreN X0.here hx rfl (hb hby at_7) rfl (l' := #[.val (.int p1), .val (.int (8 : Int32)), .unset, .unset]) (by rw [hv2_8]; rfl) ?_
        show Steps p.tables e below (s₁.setTop (mkF m 8 #[.val (.int p1), .val (.int (8 : Int32)), .unset, .unset] [])) t
        refine XS.iloadN X0.here hx rfl (hb hby at_8) rfl ?_
        exact k)
    obtain ⟨_, _, ⟨T108, L108, k108, n108⟩, -, X108, ⟨Lc108, hQ108, l108, y108, z108⟩, st108⟩ := Jvm.LawKit.callS X0 hx (y := (⟨"com/example/tiro/tiro/vault/DataTypeIsLookupPinLaw", "pick", "(I)Lcom/example/tiro/tiro/vault/DataType;"⟩ : MethodName)) hown (mvT hZ (hw _ (List.mem_of_getElem? (i := 1) rfl))) (mvT hZ (hw _ (List.mem_of_getElem? (i := 2) rfl))) (mvT hZ (hw _ (List.mem_of_getElem? (i := 3) rfl))) (mvT hZ (hw _ (List.mem_of_getElem? (i := 4) rfl))) (by decide) (backOf (W := 0) (rmP l Z a0 hw [] (8 : Int32) w0 w1 w2 w3 w4 w5 w6 w7 w8 w9 w10 w8 h0 n0 Z0 S0 S1 S2 S3 S4 S5 S6 S7 S8 S9 S10 (by simp [pickF])) hZ (hw _ (List.mem_of_getElem? (i := 4) rfl)) (hw _ (List.mem_of_getElem? (i := 3) rfl)) (by decide) (by decide)) (g := (mkF m 9 #[.val (.int p1), .val (.int (8 : Int32)), .unset, .unset] [(.int (8 : Int32))])) rfl (by rw [hml]; rfl) (argsL := [(.int (8 : Int32))]) (rest := []) (lenOf pdL_0 rfl) rfl (by show 2 * 0 + _ ≤ _; exact Nat.le_of_eq rfl) (hb hby at_9) (fun _ _ => ⟨rfl, e0, (by decide : 0 + 0 ≤ _), (by decide : 0 + 0 ≤ _)⟩)
    dsimp only [Pt.U, Pt.locs, Pt.cells, Pt.slots] at X108 l108 y108 z108 st108 hQ108
    subst l108 y108 z108
    obtain ⟨rfl, N108q, hq108⟩ := hQ108
    have N108 := Fr.app N0 N108q
    have pre109 : Go p e below T108 (mkF m 12 #[.val (.int p1), .val (.int (8 : Int32)), .unset, .unset] [(.ref w8)]) s₁ (entryFrame m #[(.int p1)] maxLocals) := fun t k => pre107 t (st108 t k)
    have e108 : T108.heap = h0 := hq108
    have pre110 : Go p e below T108 (mkF m 16 #[.val (.int p1), .val (.int (8 : Int32)), .val (.ref w8), .unset] [(.int (9 : Int32)), (.int (8 : Int32))]) s₁ (entryFrame m #[(.int p1)] maxLocals) := fun t k => pre109 t (by
        show Steps p.tables e below (T108.setTop (mkF m 12 #[.val (.int p1), .val (.int (8 : Int32)), .unset, .unset] [(.ref w8)])) t
        refine XS.astoreN X108.here hx rfl (hb hby at_12) rfl rfl (l' := #[.val (.int p1), .val (.int (8 : Int32)), .val (.ref w8), .unset]) rfl ?_
        show Steps p.tables e below (T108.setTop (mkF m 13 #[.val (.int p1), .val (.int (8 : Int32)), .val (.ref w8), .unset] [])) t
        refine XS.iloadN X108.here hx rfl (hb hby at_13) rfl ?_
        show Steps p.tables e below (T108.setTop (mkF m 14 #[.val (.int p1), .val (.int (8 : Int32)), .val (.ref w8), .unset] [(.int (8 : Int32))])) t
        refine XS.bipush X108.here hx rfl (hb hby at_14) ?_
        exact k)
    have pre111 : Go p e below T108 (mkF m 19 #[.val (.int p1), .val (.int (8 : Int32)), .val (.ref w8), .unset] []) s₁ (entryFrame m #[(.int p1)] maxLocals) := fun t k => pre110 t (XS.icmpNo X108.here hx rfl (hb hby at_16) rfl (feq (by decide : ¬ ((8 : Int32) = (9 : Int32)))).1 k)
    have pre112 : Go p e below T108 (mkF m 22 #[.val (.int p1), .val (.int (8 : Int32)), .val (.ref w8), .unset] [(.int (10 : Int32)), (.int (8 : Int32))]) s₁ (entryFrame m #[(.int p1)] maxLocals) := fun t k => pre111 t (by
        show Steps p.tables e below (T108.setTop (mkF m 19 #[.val (.int p1), .val (.int (8 : Int32)), .val (.ref w8), .unset] [])) t
        refine XS.iloadN X108.here hx rfl (hb hby at_19) rfl ?_
        show Steps p.tables e below (T108.setTop (mkF m 20 #[.val (.int p1), .val (.int (8 : Int32)), .val (.ref w8), .unset] [(.int (8 : Int32))])) t
        refine XS.bipush X108.here hx rfl (hb hby at_20) ?_
        exact k)
    have pre113 : Go p e below T108 (mkF m 29 #[.val (.int p1), .val (.int (8 : Int32)), .val (.ref w8), .unset] []) s₁ (entryFrame m #[(.int p1)] maxLocals) := fun t k => pre112 t (XS.icmpYes X108.here hx rfl (pc0 := 22) (pc' := 29) rfl (hb hby at_22) rfl (feq (by decide : ¬ ((8 : Int32) = (10 : Int32)))).2 (by decide) (by decide) k)
    have pre114 : Go p e below T108 (mkF m 32 #[.val (.int p1), .val (.int (8 : Int32)), .val (.ref w8), .val (.int (0 : Int32))] [(.ref w8)]) s₁ (entryFrame m #[(.int p1)] maxLocals) := fun t k => pre113 t (by
        show Steps p.tables e below (T108.setTop (mkF m 29 #[.val (.int p1), .val (.int (8 : Int32)), .val (.ref w8), .unset] [])) t
        refine XS.iconst X108.here hx rfl (hb hby at_29) ?_
        show Steps p.tables e below (T108.setTop (mkF m 30 #[.val (.int p1), .val (.int (8 : Int32)), .val (.ref w8), .unset] [(.int (0 : Int32))])) t
        refine XS.istoreN X108.here hx rfl (hb hby at_30) rfl (l' := #[.val (.int p1), .val (.int (8 : Int32)), .val (.ref w8), .val (.int (0 : Int32))]) rfl ?_
        show Steps p.tables e below (T108.setTop (mkF m 31 #[.val (.int p1), .val (.int (8 : Int32)), .val (.ref w8), .val (.int (0 : Int32))] [])) t
        refine XS.aloadN X108.here hx rfl (hb hby at_31) rfl rfl ?_
        exact k)
    obtain ⟨cq115, kq115, q115a, q115b, q115c⟩ := isOf hZ e108 E8
    obtain ⟨_, _, ⟨T115, L115, k115, n115⟩, -, X115, ⟨Lc115, hQ115, l115, y115, z115⟩, st115⟩ := X108.virtualBack hx (y := (⟨"com/example/tiro/tiro/vault/DataType", "isLookup", "()Z"⟩ : MethodName)) (z := (⟨"com/example/tiro/tiro/vault/DataType", "isLookup", "()Z"⟩ : MethodName)) hown (mvT hZ (hw _ (List.mem_of_getElem? (i := 8) rfl))) (mvT hZ (hw _ (List.mem_of_getElem? (i := 9) rfl))) (notFace_of_selects (args := #[]) (mvT hZ (hw _ (List.mem_of_getElem? (i := 11) rfl)))) (mvT hZ (hw _ (List.mem_of_getElem? (i := 11) rfl))) (mvT hZ (hw _ (List.mem_of_getElem? (i := 10) rfl))) (by decide) (backOf (W := 0) (rmF l Z a0 hw [] w8 w9 w10 0 h0 n0 Z0 S9 S10 (by simp [testF, d8_9, d8_10])) hZ (hw _ (List.mem_of_getElem? (i := 12) rfl)) (hw _ (List.mem_of_getElem? (i := 6) rfl)) (by decide) (by decide)) q115a q115c (g := (mkF m 32 #[.val (.int p1), .val (.int (8 : Int32)), .val (.ref w8), .val (.int (0 : Int32))] [(.ref w8)])) rfl (by rw [hml]; rfl) (Steps.refl _) (argsL := []) (rest := []) (lenOf pdL_1 rfl) rfl (by show 2 * 0 + _ ≤ _; exact Nat.le_of_eq rfl) (hb hby at_32) (fun _ _ => ⟨rfl, e108, (by decide : 0 + 0 ≤ _), (by decide : 0 + 0 ≤ _)⟩)
    dsimp only [Pt.U, Pt.locs, Pt.cells, Pt.slots] at X115 l115 y115 z115 st115 hQ115
    subst l115 y115 z115
    obtain ⟨rfl, N115q, hq115⟩ := hQ115
    have N115 := Fr.app N108 N115q
    have pre116 : Go p e below T115 (mkF m 35 #[.val (.int p1), .val (.int (8 : Int32)), .val (.ref w8), .val (.int (0 : Int32))] [(.int (0 : Int32))]) s₁ (entryFrame m #[(.int p1)] maxLocals) := fun t k => pre114 t (st115.trans k)
    have e115 : T115.heap = h0 := hq115
    have pre117 : Go p e below T115 (mkF m 36 #[.val (.int p1), .val (.int (8 : Int32)), .val (.ref w8), .val (.int (0 : Int32))] [(.int (0 : Int32)), (.int (0 : Int32))]) s₁ (entryFrame m #[(.int p1)] maxLocals) := fun t k => pre116 t (by
        show Steps p.tables e below (T115.setTop (mkF m 35 #[.val (.int p1), .val (.int (8 : Int32)), .val (.ref w8), .val (.int (0 : Int32))] [(.int (0 : Int32))])) t
        refine XS.iloadN X115.here hx rfl (hb hby at_35) rfl ?_
        exact k)
    have pre118 : Go p e below T115 (mkF m 39 #[.val (.int p1), .val (.int (8 : Int32)), .val (.ref w8), .val (.int (0 : Int32))] []) s₁ (entryFrame m #[(.int p1)] maxLocals) := fun t k => pre117 t (XS.icmpNo X115.here hx rfl (hb hby at_36) rfl (teq (by decide : (0 : Int32) = (0 : Int32))).2 k)
    have pre119 : Go p e below T115 (mkF m 44 #[.val (.int p1), .val (.int (8 : Int32)), .val (.ref w8), .val (.int (0 : Int32))] [(.int (1 : Int32))]) s₁ (entryFrame m #[(.int p1)] maxLocals) := fun t k => pre118 t (by
        show Steps p.tables e below (T115.setTop (mkF m 39 #[.val (.int p1), .val (.int (8 : Int32)), .val (.ref w8), .val (.int (0 : Int32))] [])) t
        refine XS.iconst X115.here hx rfl (hb hby at_39) ?_
        show Steps p.tables e below (T115.setTop (mkF m 40 #[.val (.int p1), .val (.int (8 : Int32)), .val (.ref w8), .val (.int (0 : Int32))] [(.int (1 : Int32))])) t
        refine XS.goto X115.here hx rfl (pc0 := 40) (pc' := 44) rfl (hb hby at_40) (by decide) (by decide) ?_
        exact k)
    have hnr : Value.int (nar .boolean (1 : Int32)) = (.int (1 : Int32)) := by rfl
    obtain ⟨fs, hr, hrun, hended, hW, hsame⟩ := X115.leave (v := some (.int (1 : Int32))) (fun h => by rw [Bd.returns] at h; cases h)
    refine ⟨_, _, pre119 _ (retN X115 hx (t := .boolean) Bd.returns (by simp) (hb hby at_44) (hnr ▸ hr)), hrun, hended, _, _, rfl, ?_, ⟨_, rfl⟩, hW, hsame.mono (by decide) (by decide)⟩
    show QL Z p1 w0 w1 w2 w3 w4 w5 w6 w7 w8 w9 w10 h0 n0 _ T115.heap _
    rw [e115]
    exact ⟨rfl, N115⟩
  · have pre120 : Go p e below s₁ (mkF m 9 #[.val (.int p1), .val (.int (9 : Int32)), .unset, .unset] [(.int (9 : Int32))]) s₁ (entryFrame m #[(.int p1)] maxLocals) := fun t k => pre1 t (by
        show Steps p.tables e below (s₁.setTop (mkF m 7 #[.val (.int p1), .unset, .unset, .unset] [(.int ((p1 &&& (2147483647 : Int32)) % (11 : Int32)))])) t
        refine XS.istoreN X0.here hx rfl (hb hby at_7) rfl (l' := #[.val (.int p1), .val (.int (9 : Int32)), .unset, .unset]) (by rw [hv2_9]; rfl) ?_
        show Steps p.tables e below (s₁.setTop (mkF m 8 #[.val (.int p1), .val (.int (9 : Int32)), .unset, .unset] [])) t
        refine XS.iloadN X0.here hx rfl (hb hby at_8) rfl ?_
        exact k)
    obtain ⟨_, _, ⟨T121, L121, k121, n121⟩, -, X121, ⟨Lc121, hQ121, l121, y121, z121⟩, st121⟩ := Jvm.LawKit.callS X0 hx (y := (⟨"com/example/tiro/tiro/vault/DataTypeIsLookupPinLaw", "pick", "(I)Lcom/example/tiro/tiro/vault/DataType;"⟩ : MethodName)) hown (mvT hZ (hw _ (List.mem_of_getElem? (i := 1) rfl))) (mvT hZ (hw _ (List.mem_of_getElem? (i := 2) rfl))) (mvT hZ (hw _ (List.mem_of_getElem? (i := 3) rfl))) (mvT hZ (hw _ (List.mem_of_getElem? (i := 4) rfl))) (by decide) (backOf (W := 0) (rmP l Z a0 hw [] (9 : Int32) w0 w1 w2 w3 w4 w5 w6 w7 w8 w9 w10 w9 h0 n0 Z0 S0 S1 S2 S3 S4 S5 S6 S7 S8 S9 S10 (by simp [pickF])) hZ (hw _ (List.mem_of_getElem? (i := 4) rfl)) (hw _ (List.mem_of_getElem? (i := 3) rfl)) (by decide) (by decide)) (g := (mkF m 9 #[.val (.int p1), .val (.int (9 : Int32)), .unset, .unset] [(.int (9 : Int32))])) rfl (by rw [hml]; rfl) (argsL := [(.int (9 : Int32))]) (rest := []) (lenOf pdL_0 rfl) rfl (by show 2 * 0 + _ ≤ _; exact Nat.le_of_eq rfl) (hb hby at_9) (fun _ _ => ⟨rfl, e0, (by decide : 0 + 0 ≤ _), (by decide : 0 + 0 ≤ _)⟩)
    dsimp only [Pt.U, Pt.locs, Pt.cells, Pt.slots] at X121 l121 y121 z121 st121 hQ121
    subst l121 y121 z121
    obtain ⟨rfl, N121q, hq121⟩ := hQ121
    have N121 := Fr.app N0 N121q
    have pre122 : Go p e below T121 (mkF m 12 #[.val (.int p1), .val (.int (9 : Int32)), .unset, .unset] [(.ref w9)]) s₁ (entryFrame m #[(.int p1)] maxLocals) := fun t k => pre120 t (st121 t k)
    have e121 : T121.heap = h0 := hq121
    have pre123 : Go p e below T121 (mkF m 16 #[.val (.int p1), .val (.int (9 : Int32)), .val (.ref w9), .unset] [(.int (9 : Int32)), (.int (9 : Int32))]) s₁ (entryFrame m #[(.int p1)] maxLocals) := fun t k => pre122 t (by
        show Steps p.tables e below (T121.setTop (mkF m 12 #[.val (.int p1), .val (.int (9 : Int32)), .unset, .unset] [(.ref w9)])) t
        refine XS.astoreN X121.here hx rfl (hb hby at_12) rfl rfl (l' := #[.val (.int p1), .val (.int (9 : Int32)), .val (.ref w9), .unset]) rfl ?_
        show Steps p.tables e below (T121.setTop (mkF m 13 #[.val (.int p1), .val (.int (9 : Int32)), .val (.ref w9), .unset] [])) t
        refine XS.iloadN X121.here hx rfl (hb hby at_13) rfl ?_
        show Steps p.tables e below (T121.setTop (mkF m 14 #[.val (.int p1), .val (.int (9 : Int32)), .val (.ref w9), .unset] [(.int (9 : Int32))])) t
        refine XS.bipush X121.here hx rfl (hb hby at_14) ?_
        exact k)
    have pre124 : Go p e below T121 (mkF m 25 #[.val (.int p1), .val (.int (9 : Int32)), .val (.ref w9), .unset] []) s₁ (entryFrame m #[(.int p1)] maxLocals) := fun t k => pre123 t (XS.icmpYes X121.here hx rfl (pc0 := 16) (pc' := 25) rfl (hb hby at_16) rfl (teq (by decide : (9 : Int32) = (9 : Int32))).1 (by decide) (by decide) k)
    have pre125 : Go p e below T121 (mkF m 32 #[.val (.int p1), .val (.int (9 : Int32)), .val (.ref w9), .val (.int (1 : Int32))] [(.ref w9)]) s₁ (entryFrame m #[(.int p1)] maxLocals) := fun t k => pre124 t (by
        show Steps p.tables e below (T121.setTop (mkF m 25 #[.val (.int p1), .val (.int (9 : Int32)), .val (.ref w9), .unset] [])) t
        refine XS.iconst X121.here hx rfl (hb hby at_25) ?_
        show Steps p.tables e below (T121.setTop (mkF m 26 #[.val (.int p1), .val (.int (9 : Int32)), .val (.ref w9), .unset] [(.int (1 : Int32))])) t
        refine XS.goto X121.here hx rfl (pc0 := 26) (pc' := 30) rfl (hb hby at_26) (by decide) (by decide) ?_
        show Steps p.tables e below (T121.setTop (mkF m 30 #[.val (.int p1), .val (.int (9 : Int32)), .val (.ref w9), .unset] [(.int (1 : Int32))])) t
        refine XS.istoreN X121.here hx rfl (hb hby at_30) rfl (l' := #[.val (.int p1), .val (.int (9 : Int32)), .val (.ref w9), .val (.int (1 : Int32))]) rfl ?_
        show Steps p.tables e below (T121.setTop (mkF m 31 #[.val (.int p1), .val (.int (9 : Int32)), .val (.ref w9), .val (.int (1 : Int32))] [])) t
        refine XS.aloadN X121.here hx rfl (hb hby at_31) rfl rfl ?_
        exact k)
    obtain ⟨cq126, kq126, q126a, q126b, q126c⟩ := isOf hZ e121 E9
    obtain ⟨_, _, ⟨T126, L126, k126, n126⟩, -, X126, ⟨Lc126, hQ126, l126, y126, z126⟩, st126⟩ := X121.virtualBack hx (y := (⟨"com/example/tiro/tiro/vault/DataType", "isLookup", "()Z"⟩ : MethodName)) (z := (⟨"com/example/tiro/tiro/vault/DataType", "isLookup", "()Z"⟩ : MethodName)) hown (mvT hZ (hw _ (List.mem_of_getElem? (i := 8) rfl))) (mvT hZ (hw _ (List.mem_of_getElem? (i := 9) rfl))) (notFace_of_selects (args := #[]) (mvT hZ (hw _ (List.mem_of_getElem? (i := 11) rfl)))) (mvT hZ (hw _ (List.mem_of_getElem? (i := 11) rfl))) (mvT hZ (hw _ (List.mem_of_getElem? (i := 10) rfl))) (by decide) (backOf (W := 0) (rmF l Z a0 hw [] w9 w9 w10 1 h0 n0 Z0 S9 S10 (by simp [testF])) hZ (hw _ (List.mem_of_getElem? (i := 12) rfl)) (hw _ (List.mem_of_getElem? (i := 6) rfl)) (by decide) (by decide)) q126a q126c (g := (mkF m 32 #[.val (.int p1), .val (.int (9 : Int32)), .val (.ref w9), .val (.int (1 : Int32))] [(.ref w9)])) rfl (by rw [hml]; rfl) (Steps.refl _) (argsL := []) (rest := []) (lenOf pdL_1 rfl) rfl (by show 2 * 0 + _ ≤ _; exact Nat.le_of_eq rfl) (hb hby at_32) (fun _ _ => ⟨rfl, e121, (by decide : 0 + 0 ≤ _), (by decide : 0 + 0 ≤ _)⟩)
    dsimp only [Pt.U, Pt.locs, Pt.cells, Pt.slots] at X126 l126 y126 z126 st126 hQ126
    subst l126 y126 z126
    obtain ⟨rfl, N126q, hq126⟩ := hQ126
    have N126 := Fr.app N121 N126q
    have pre127 : Go p e below T126 (mkF m 35 #[.val (.int p1), .val (.int (9 : Int32)), .val (.ref w9), .val (.int (1 : Int32))] [(.int (1 : Int32))]) s₁ (entryFrame m #[(.int p1)] maxLocals) := fun t k => pre125 t (st126.trans k)
    have e126 : T126.heap = h0 := hq126
    have pre128 : Go p e below T126 (mkF m 36 #[.val (.int p1), .val (.int (9 : Int32)), .val (.ref w9), .val (.int (1 : Int32))] [(.int (1 : Int32)), (.int (1 : Int32))]) s₁ (entryFrame m #[(.int p1)] maxLocals) := fun t k => pre127 t (by
        show Steps p.tables e below (T126.setTop (mkF m 35 #[.val (.int p1), .val (.int (9 : Int32)), .val (.ref w9), .val (.int (1 : Int32))] [(.int (1 : Int32))])) t
        refine XS.iloadN X126.here hx rfl (hb hby at_35) rfl ?_
        exact k)
    have pre129 : Go p e below T126 (mkF m 39 #[.val (.int p1), .val (.int (9 : Int32)), .val (.ref w9), .val (.int (1 : Int32))] []) s₁ (entryFrame m #[(.int p1)] maxLocals) := fun t k => pre128 t (XS.icmpNo X126.here hx rfl (hb hby at_36) rfl (teq (by decide : (1 : Int32) = (1 : Int32))).2 k)
    have pre130 : Go p e below T126 (mkF m 44 #[.val (.int p1), .val (.int (9 : Int32)), .val (.ref w9), .val (.int (1 : Int32))] [(.int (1 : Int32))]) s₁ (entryFrame m #[(.int p1)] maxLocals) := fun t k => pre129 t (by
        show Steps p.tables e below (T126.setTop (mkF m 39 #[.val (.int p1), .val (.int (9 : Int32)), .val (.ref w9), .val (.int (1 : Int32))] [])) t
        refine XS.iconst X126.here hx rfl (hb hby at_39) ?_
        show Steps p.tables e below (T126.setTop (mkF m 40 #[.val (.int p1), .val (.int (9 : Int32)), .val (.ref w9), .val (.int (1 : Int32))] [(.int (1 : Int32))])) t
        refine XS.goto X126.here hx rfl (pc0 := 40) (pc' := 44) rfl (hb hby at_40) (by decide) (by decide) ?_
        exact k)
    have hnr : Value.int (nar .boolean (1 : Int32)) = (.int (1 : Int32)) := by rfl
    obtain ⟨fs, hr, hrun, hended, hW, hsame⟩ := X126.leave (v := some (.int (1 : Int32))) (fun h => by rw [Bd.returns] at h; cases h)
    refine ⟨_, _, pre130 _ (retN X126 hx (t := .boolean) Bd.returns (by simp) (hb hby at_44) (hnr ▸ hr)), hrun, hended, _, _, rfl, ?_, ⟨_, rfl⟩, hW, hsame.mono (by decide) (by decide)⟩
    show QL Z p1 w0 w1 w2 w3 w4 w5 w6 w7 w8 w9 w10 h0 n0 _ T126.heap _
    rw [e126]
    exact ⟨rfl, N126⟩
  · have pre131 : Go p e below s₁ (mkF m 9 #[.val (.int p1), .val (.int (10 : Int32)), .unset, .unset] [(.int (10 : Int32))]) s₁ (entryFrame m #[(.int p1)] maxLocals) := fun t k => pre1 t (by
        show Steps p.tables e below (s₁.setTop (mkF m 7 #[.val (.int p1), .unset, .unset, .unset] [(.int ((p1 &&& (2147483647 : Int32)) % (11 : Int32)))])) t
        refine XS.istoreN X0.here hx rfl (hb hby at_7) rfl (l' := #[.val (.int p1), .val (.int (10 : Int32)), .unset, .unset]) (by rw [hv2_10]; rfl) ?_
        show Steps p.tables e below (s₁.setTop (mkF m 8 #[.val (.int p1), .val (.int (10 : Int32)), .unset, .unset] [])) t
        refine XS.iloadN X0.here hx rfl (hb hby at_8) rfl ?_
        exact k)
    obtain ⟨_, _, ⟨T132, L132, k132, n132⟩, -, X132, ⟨Lc132, hQ132, l132, y132, z132⟩, st132⟩ := Jvm.LawKit.callS X0 hx (y := (⟨"com/example/tiro/tiro/vault/DataTypeIsLookupPinLaw", "pick", "(I)Lcom/example/tiro/tiro/vault/DataType;"⟩ : MethodName)) hown (mvT hZ (hw _ (List.mem_of_getElem? (i := 1) rfl))) (mvT hZ (hw _ (List.mem_of_getElem? (i := 2) rfl))) (mvT hZ (hw _ (List.mem_of_getElem? (i := 3) rfl))) (mvT hZ (hw _ (List.mem_of_getElem? (i := 4) rfl))) (by decide) (backOf (W := 0) (rmP l Z a0 hw [] (10 : Int32) w0 w1 w2 w3 w4 w5 w6 w7 w8 w9 w10 w10 h0 n0 Z0 S0 S1 S2 S3 S4 S5 S6 S7 S8 S9 S10 (by simp [pickF])) hZ (hw _ (List.mem_of_getElem? (i := 4) rfl)) (hw _ (List.mem_of_getElem? (i := 3) rfl)) (by decide) (by decide)) (g := (mkF m 9 #[.val (.int p1), .val (.int (10 : Int32)), .unset, .unset] [(.int (10 : Int32))])) rfl (by rw [hml]; rfl) (argsL := [(.int (10 : Int32))]) (rest := []) (lenOf pdL_0 rfl) rfl (by show 2 * 0 + _ ≤ _; exact Nat.le_of_eq rfl) (hb hby at_9) (fun _ _ => ⟨rfl, e0, (by decide : 0 + 0 ≤ _), (by decide : 0 + 0 ≤ _)⟩)
    dsimp only [Pt.U, Pt.locs, Pt.cells, Pt.slots] at X132 l132 y132 z132 st132 hQ132
    subst l132 y132 z132
    obtain ⟨rfl, N132q, hq132⟩ := hQ132
    have N132 := Fr.app N0 N132q
    have pre133 : Go p e below T132 (mkF m 12 #[.val (.int p1), .val (.int (10 : Int32)), .unset, .unset] [(.ref w10)]) s₁ (entryFrame m #[(.int p1)] maxLocals) := fun t k => pre131 t (st132 t k)
    have e132 : T132.heap = h0 := hq132
    have pre134 : Go p e below T132 (mkF m 16 #[.val (.int p1), .val (.int (10 : Int32)), .val (.ref w10), .unset] [(.int (9 : Int32)), (.int (10 : Int32))]) s₁ (entryFrame m #[(.int p1)] maxLocals) := fun t k => pre133 t (by
        show Steps p.tables e below (T132.setTop (mkF m 12 #[.val (.int p1), .val (.int (10 : Int32)), .unset, .unset] [(.ref w10)])) t
        refine XS.astoreN X132.here hx rfl (hb hby at_12) rfl rfl (l' := #[.val (.int p1), .val (.int (10 : Int32)), .val (.ref w10), .unset]) rfl ?_
        show Steps p.tables e below (T132.setTop (mkF m 13 #[.val (.int p1), .val (.int (10 : Int32)), .val (.ref w10), .unset] [])) t
        refine XS.iloadN X132.here hx rfl (hb hby at_13) rfl ?_
        show Steps p.tables e below (T132.setTop (mkF m 14 #[.val (.int p1), .val (.int (10 : Int32)), .val (.ref w10), .unset] [(.int (10 : Int32))])) t
        refine XS.bipush X132.here hx rfl (hb hby at_14) ?_
        exact k)
    have pre135 : Go p e below T132 (mkF m 19 #[.val (.int p1), .val (.int (10 : Int32)), .val (.ref w10), .unset] []) s₁ (entryFrame m #[(.int p1)] maxLocals) := fun t k => pre134 t (XS.icmpNo X132.here hx rfl (hb hby at_16) rfl (feq (by decide : ¬ ((10 : Int32) = (9 : Int32)))).1 k)
    have pre136 : Go p e below T132 (mkF m 22 #[.val (.int p1), .val (.int (10 : Int32)), .val (.ref w10), .unset] [(.int (10 : Int32)), (.int (10 : Int32))]) s₁ (entryFrame m #[(.int p1)] maxLocals) := fun t k => pre135 t (by
        show Steps p.tables e below (T132.setTop (mkF m 19 #[.val (.int p1), .val (.int (10 : Int32)), .val (.ref w10), .unset] [])) t
        refine XS.iloadN X132.here hx rfl (hb hby at_19) rfl ?_
        show Steps p.tables e below (T132.setTop (mkF m 20 #[.val (.int p1), .val (.int (10 : Int32)), .val (.ref w10), .unset] [(.int (10 : Int32))])) t
        refine XS.bipush X132.here hx rfl (hb hby at_20) ?_
        exact k)
    have pre137 : Go p e below T132 (mkF m 25 #[.val (.int p1), .val (.int (10 : Int32)), .val (.ref w10), .unset] []) s₁ (entryFrame m #[(.int p1)] maxLocals) := fun t k => pre136 t (XS.icmpNo X132.here hx rfl (hb hby at_22) rfl (teq (by decide : (10 : Int32) = (10 : Int32))).2 k)
    have pre138 : Go p e below T132 (mkF m 32 #[.val (.int p1), .val (.int (10 : Int32)), .val (.ref w10), .val (.int (1 : Int32))] [(.ref w10)]) s₁ (entryFrame m #[(.int p1)] maxLocals) := fun t k => pre137 t (by
        show Steps p.tables e below (T132.setTop (mkF m 25 #[.val (.int p1), .val (.int (10 : Int32)), .val (.ref w10), .unset] [])) t
        refine XS.iconst X132.here hx rfl (hb hby at_25) ?_
        show Steps p.tables e below (T132.setTop (mkF m 26 #[.val (.int p1), .val (.int (10 : Int32)), .val (.ref w10), .unset] [(.int (1 : Int32))])) t
        refine XS.goto X132.here hx rfl (pc0 := 26) (pc' := 30) rfl (hb hby at_26) (by decide) (by decide) ?_
        show Steps p.tables e below (T132.setTop (mkF m 30 #[.val (.int p1), .val (.int (10 : Int32)), .val (.ref w10), .unset] [(.int (1 : Int32))])) t
        refine XS.istoreN X132.here hx rfl (hb hby at_30) rfl (l' := #[.val (.int p1), .val (.int (10 : Int32)), .val (.ref w10), .val (.int (1 : Int32))]) rfl ?_
        show Steps p.tables e below (T132.setTop (mkF m 31 #[.val (.int p1), .val (.int (10 : Int32)), .val (.ref w10), .val (.int (1 : Int32))] [])) t
        refine XS.aloadN X132.here hx rfl (hb hby at_31) rfl rfl ?_
        exact k)
    obtain ⟨cq139, kq139, q139a, q139b, q139c⟩ := isOf hZ e132 E10
    obtain ⟨_, _, ⟨T139, L139, k139, n139⟩, -, X139, ⟨Lc139, hQ139, l139, y139, z139⟩, st139⟩ := X132.virtualBack hx (y := (⟨"com/example/tiro/tiro/vault/DataType", "isLookup", "()Z"⟩ : MethodName)) (z := (⟨"com/example/tiro/tiro/vault/DataType", "isLookup", "()Z"⟩ : MethodName)) hown (mvT hZ (hw _ (List.mem_of_getElem? (i := 8) rfl))) (mvT hZ (hw _ (List.mem_of_getElem? (i := 9) rfl))) (notFace_of_selects (args := #[]) (mvT hZ (hw _ (List.mem_of_getElem? (i := 11) rfl)))) (mvT hZ (hw _ (List.mem_of_getElem? (i := 11) rfl))) (mvT hZ (hw _ (List.mem_of_getElem? (i := 10) rfl))) (by decide) (backOf (W := 0) (rmF l Z a0 hw [] w10 w9 w10 1 h0 n0 Z0 S9 S10 (by simp [testF])) hZ (hw _ (List.mem_of_getElem? (i := 12) rfl)) (hw _ (List.mem_of_getElem? (i := 6) rfl)) (by decide) (by decide)) q139a q139c (g := (mkF m 32 #[.val (.int p1), .val (.int (10 : Int32)), .val (.ref w10), .val (.int (1 : Int32))] [(.ref w10)])) rfl (by rw [hml]; rfl) (Steps.refl _) (argsL := []) (rest := []) (lenOf pdL_1 rfl) rfl (by show 2 * 0 + _ ≤ _; exact Nat.le_of_eq rfl) (hb hby at_32) (fun _ _ => ⟨rfl, e132, (by decide : 0 + 0 ≤ _), (by decide : 0 + 0 ≤ _)⟩)
    dsimp only [Pt.U, Pt.locs, Pt.cells, Pt.slots] at X139 l139 y139 z139 st139 hQ139
    subst l139 y139 z139
    obtain ⟨rfl, N139q, hq139⟩ := hQ139
    have N139 := Fr.app N132 N139q
    have pre140 : Go p e below T139 (mkF m 35 #[.val (.int p1), .val (.int (10 : Int32)), .val (.ref w10), .val (.int (1 : Int32))] [(.int (1 : Int32))]) s₁ (entryFrame m #[(.int p1)] maxLocals) := fun t k => pre138 t (st139.trans k)
    have e139 : T139.heap = h0 := hq139
    have pre141 : Go p e below T139 (mkF m 36 #[.val (.int p1), .val (.int (10 : Int32)), .val (.ref w10), .val (.int (1 : Int32))] [(.int (1 : Int32)), (.int (1 : Int32))]) s₁ (entryFrame m #[(.int p1)] maxLocals) := fun t k => pre140 t (by
        show Steps p.tables e below (T139.setTop (mkF m 35 #[.val (.int p1), .val (.int (10 : Int32)), .val (.ref w10), .val (.int (1 : Int32))] [(.int (1 : Int32))])) t
        refine XS.iloadN X139.here hx rfl (hb hby at_35) rfl ?_
        exact k)
    have pre142 : Go p e below T139 (mkF m 39 #[.val (.int p1), .val (.int (10 : Int32)), .val (.ref w10), .val (.int (1 : Int32))] []) s₁ (entryFrame m #[(.int p1)] maxLocals) := fun t k => pre141 t (XS.icmpNo X139.here hx rfl (hb hby at_36) rfl (teq (by decide : (1 : Int32) = (1 : Int32))).2 k)
    have pre143 : Go p e below T139 (mkF m 44 #[.val (.int p1), .val (.int (10 : Int32)), .val (.ref w10), .val (.int (1 : Int32))] [(.int (1 : Int32))]) s₁ (entryFrame m #[(.int p1)] maxLocals) := fun t k => pre142 t (by
        show Steps p.tables e below (T139.setTop (mkF m 39 #[.val (.int p1), .val (.int (10 : Int32)), .val (.ref w10), .val (.int (1 : Int32))] [])) t
        refine XS.iconst X139.here hx rfl (hb hby at_39) ?_
        show Steps p.tables e below (T139.setTop (mkF m 40 #[.val (.int p1), .val (.int (10 : Int32)), .val (.ref w10), .val (.int (1 : Int32))] [(.int (1 : Int32))])) t
        refine XS.goto X139.here hx rfl (pc0 := 40) (pc' := 44) rfl (hb hby at_40) (by decide) (by decide) ?_
        exact k)
    have hnr : Value.int (nar .boolean (1 : Int32)) = (.int (1 : Int32)) := by rfl
    obtain ⟨fs, hr, hrun, hended, hW, hsame⟩ := X139.leave (v := some (.int (1 : Int32))) (fun h => by rw [Bd.returns] at h; cases h)
    refine ⟨_, _, pre143 _ (retN X139 hx (t := .boolean) Bd.returns (by simp) (hb hby at_44) (hnr ▸ hr)), hrun, hended, _, _, rfl, ?_, ⟨_, rfl⟩, hW, hsame.mono (by decide) (by decide)⟩
    show QL Z p1 w0 w1 w2 w3 w4 w5 w6 w7 w8 w9 w10 h0 n0 _ T139.heap _
    rw [e139]
    exact ⟨rfl, N139⟩
set_option maxRecDepth 65536 in
set_option maxHeartbeats 40000000 in
theorem comes_1 {Post : Tables → Env → Array Value → State → Outcome → State → Prop} (hpost : ∀ tb e args s v u, (limb_1_1.after args s (.returned v) u = true ∧ limb_1_2.after args s (.returned v) u = true ∧ True) → FrameEnd s (.returned v) u (Jvm.fieldLocs frame_1_writes args s ++ Jvm.arrayLocs frame_1_arrays args s ++ Jvm.staticLocs frame_1_statics s) 0 0 → Post tb e args s (.returned v) u) :
    ArmFor flags0 classFile x code maxLocals ret World_1 tables_1 room_1 Calls_1 rest_1 Pre_1 Post := by
  intro l hfl _ _ p e ha hc hk s m args below hf hA hF happ hP
  obtain ⟨hcalls, hrest, hpre⟩ := hP
  obtain ⟨-, -, -, hnamed, -, -, -, hat⟩ := (Spec.applies_iff hf).mp happ
  obtain ⟨hg, hn⟩ := and_e (Cond.before_iff.mp (show (Jvm.Cond.and given_1 narrow_1).before args s = true from hpre))
  obtain ⟨hg0, hg1⟩ := and_e hg
  obtain ⟨w0, rfl⟩ : ∃ w0 : Value, args = #[w0] := by
    have hs : args.size = 1 := by simpa [Cond.value, given_1] using hg0
    obtain ⟨L⟩ := args
    match L, hs with
    | [w0], _ => exact ⟨w0, rfl⟩
  have hw := fun d (hd : d ∈ tables_1) => atoms_spec (ws := Jvm.Cond.code x code maxLocals ret :: tables_1) hat d (List.mem_cons_of_mem _ hd)
  have hfit : Fit s := fun {y c} hc i hi => by
    obtain ⟨ha, rfl⟩ := Array.getElem?_eq_some_iff.mp hc
    have q := List.all_eq_true.mp ((Array.all_eq_true_iff_forall_mem.mp hF) _ (Array.getElem_mem ha)) i (List.mem_range.mpr hi)
    simpa [Array.getElem?_eq_getElem hi] using q
  obtain ⟨x0, ei0⟩ := is_v hg1
  obtain rfl : w0 = (.int x0) := Option.some.inj ei0
  obtain ⟨nr0, nr1⟩ := and_e hn
  obtain ⟨nr2, nr3⟩ := and_e nr1
  obtain ⟨nr4, nr5⟩ := and_e nr3
  obtain ⟨nr6, nr7⟩ := and_e nr5
  obtain ⟨nr8, nr9⟩ := and_e nr7
  obtain ⟨nr10, nr11⟩ := and_e nr9
  obtain ⟨nr12, nr13⟩ := and_e nr11
  obtain ⟨nr14, nr15⟩ := and_e nr13
  obtain ⟨nr16, nr17⟩ := and_e nr15
  obtain ⟨nr18, nr19⟩ := and_e nr17
  obtain ⟨nr20, nr21⟩ := and_e nr19
  obtain ⟨nr22, nr23⟩ := and_e nr21
  obtain ⟨nr24, nr25⟩ := and_e nr23
  obtain ⟨nr26, nr27⟩ := and_e nr25
  obtain ⟨nr28, nr29⟩ := and_e nr27
  obtain ⟨nr30, nr31⟩ := and_e nr29
  obtain ⟨nr32, nr33⟩ := and_e nr31
  obtain ⟨nr34, nr35⟩ := and_e nr33
  obtain ⟨nr36, nr37⟩ := and_e nr35
  obtain ⟨nr38, nr39⟩ := and_e nr37
  obtain ⟨nr40, nr41⟩ := and_e nr39
  obtain ⟨a0, ev0⟩ := exa_v nr0
  have E0 : Exa s s.heap a0 "com/example/tiro/tiro/vault/DataType" := Exa.start ev0 nr0
  have S0 : Sta s s.heap "com/example/tiro/tiro/vault/DataType" "TEXT" "Lcom/example/tiro/tiro/vault/DataType;" (.ref a0) := Sta.start ev0 (Or.inr ⟨(hw _ (List.mem_of_getElem? (i := 6) rfl)), (hw _ (List.mem_of_getElem? (i := 7) rfl))⟩)
  have F0 := own_fld ev0 nr4
  obtain ⟨a1, ev1⟩ := exa_v nr28
  have E1 : Exa s s.heap a1 "com/example/tiro/tiro/vault/DataType" := Exa.start ev1 nr28
  have S1 : Sta s s.heap "com/example/tiro/tiro/vault/DataType" "MULTILINE_TEXT" "Lcom/example/tiro/tiro/vault/DataType;" (.ref a1) := Sta.start ev1 (Or.inr ⟨(hw _ (List.mem_of_getElem? (i := 6) rfl)), (hw _ (List.mem_of_getElem? (i := 27) rfl))⟩)
  have F1 := own_fld ev1 nr30
  obtain ⟨a2, ev2⟩ := exa_v nr24
  have E2 : Exa s s.heap a2 "com/example/tiro/tiro/vault/DataType" := Exa.start ev2 nr24
  have S2 : Sta s s.heap "com/example/tiro/tiro/vault/DataType" "INTEGER" "Lcom/example/tiro/tiro/vault/DataType;" (.ref a2) := Sta.start ev2 (Or.inr ⟨(hw _ (List.mem_of_getElem? (i := 6) rfl)), (hw _ (List.mem_of_getElem? (i := 24) rfl))⟩)
  have F2 := own_fld ev2 nr26
  obtain ⟨a3, ev3⟩ := exa_v nr12
  have E3 : Exa s s.heap a3 "com/example/tiro/tiro/vault/DataType" := Exa.start ev3 nr12
  have S3 : Sta s s.heap "com/example/tiro/tiro/vault/DataType" "INTEGER64" "Lcom/example/tiro/tiro/vault/DataType;" (.ref a3) := Sta.start ev3 (Or.inr ⟨(hw _ (List.mem_of_getElem? (i := 6) rfl)), (hw _ (List.mem_of_getElem? (i := 18) rfl))⟩)
  have F3 := own_fld ev3 nr14
  obtain ⟨a4, ev4⟩ := exa_v nr40
  have E4 : Exa s s.heap a4 "com/example/tiro/tiro/vault/DataType" := Exa.start ev4 nr40
  have S4 : Sta s s.heap "com/example/tiro/tiro/vault/DataType" "REAL" "Lcom/example/tiro/tiro/vault/DataType;" (.ref a4) := Sta.start ev4 (Or.inr ⟨(hw _ (List.mem_of_getElem? (i := 6) rfl)), (hw _ (List.mem_of_getElem? (i := 34) rfl))⟩)
  have F4 := own_fld ev4 nr41
  obtain ⟨a5, ev5⟩ := exa_v nr32
  have E5 : Exa s s.heap a5 "com/example/tiro/tiro/vault/DataType" := Exa.start ev5 nr32
  have S5 : Sta s s.heap "com/example/tiro/tiro/vault/DataType" "DATE" "Lcom/example/tiro/tiro/vault/DataType;" (.ref a5) := Sta.start ev5 (Or.inr ⟨(hw _ (List.mem_of_getElem? (i := 6) rfl)), (hw _ (List.mem_of_getElem? (i := 30) rfl))⟩)
  have F5 := own_fld ev5 nr34
  obtain ⟨a6, ev6⟩ := exa_v nr36
  have E6 : Exa s s.heap a6 "com/example/tiro/tiro/vault/DataType" := Exa.start ev6 nr36
  have S6 : Sta s s.heap "com/example/tiro/tiro/vault/DataType" "TIME" "Lcom/example/tiro/tiro/vault/DataType;" (.ref a6) := Sta.start ev6 (Or.inr ⟨(hw _ (List.mem_of_getElem? (i := 6) rfl)), (hw _ (List.mem_of_getElem? (i := 32) rfl))⟩)
  have F6 := own_fld ev6 nr38
  obtain ⟨a7, ev7⟩ := exa_v nr16
  have E7 : Exa s s.heap a7 "com/example/tiro/tiro/vault/DataType" := Exa.start ev7 nr16
  have S7 : Sta s s.heap "com/example/tiro/tiro/vault/DataType" "TIMESTAMP" "Lcom/example/tiro/tiro/vault/DataType;" (.ref a7) := Sta.start ev7 (Or.inr ⟨(hw _ (List.mem_of_getElem? (i := 6) rfl)), (hw _ (List.mem_of_getElem? (i := 20) rfl))⟩)
  have F7 := own_fld ev7 nr18
  obtain ⟨a8, ev8⟩ := exa_v nr20
  have E8 : Exa s s.heap a8 "com/example/tiro/tiro/vault/DataType" := Exa.start ev8 nr20
  have S8 : Sta s s.heap "com/example/tiro/tiro/vault/DataType" "BOOLEAN" "Lcom/example/tiro/tiro/vault/DataType;" (.ref a8) := Sta.start ev8 (Or.inr ⟨(hw _ (List.mem_of_getElem? (i := 6) rfl)), (hw _ (List.mem_of_getElem? (i := 22) rfl))⟩)
  have F8 := own_fld ev8 nr22
  obtain ⟨a9, ev9⟩ := exa_v nr2
  have E9 : Exa s s.heap a9 "com/example/tiro/tiro/vault/DataType" := Exa.start ev9 nr2
  have S9 : Sta s s.heap "com/example/tiro/tiro/vault/DataType" "LOOKUP" "Lcom/example/tiro/tiro/vault/DataType;" (.ref a9) := Sta.start ev9 (Or.inr ⟨(hw _ (List.mem_of_getElem? (i := 6) rfl)), (hw _ (List.mem_of_getElem? (i := 14) rfl))⟩)
  have F9 := own_fld ev9 nr6
  obtain ⟨a10, ev10⟩ := exa_v nr8
  have E10 : Exa s s.heap a10 "com/example/tiro/tiro/vault/DataType" := Exa.start ev10 nr8
  have S10 : Sta s s.heap "com/example/tiro/tiro/vault/DataType" "MULTI_SELECT_LOOKUP" "Lcom/example/tiro/tiro/vault/DataType;" (.ref a10) := Sta.start ev10 (Or.inr ⟨(hw _ (List.mem_of_getElem? (i := 6) rfl)), (hw _ (List.mem_of_getElem? (i := 16) rfl))⟩)
  have F10 := own_fld ev10 nr10
  obtain ⟨n, o, h1, h2, h3, _, L, rfl, ⟨rfl, N⟩, hq⟩ := rmL l s _ hw tables_1 x0 a0 a1 a2 a3 a4 a5 a6 a7 a8 a9 a10 s.heap s.heap.size (Nat.le_refl _) S0 S1 S2 S3 S4 S5 S6 S7 S8 S9 S10 E0 E1 E2 E3 E4 E5 E6 E7 E8 E9 E10 (Fld.ne F0 F9 (by simp)) (Fld.ne F0 F10 (by simp)) (Fld.ne F1 F9 (by simp)) (Fld.ne F1 F10 (by simp)) (Fld.ne F2 F9 (by simp)) (Fld.ne F2 F10 (by simp)) (Fld.ne F3 F9 (by simp)) (Fld.ne F3 F10 (by simp)) (Fld.ne F4 F9 (by simp)) (Fld.ne F4 F10 (by simp)) (Fld.ne F5 F9 (by simp)) (Fld.ne F5 F10 (by simp)) (Fld.ne F6 F9 (by simp)) (Fld.ne F6 F10 (by simp)) (Fld.ne F7 F9 (by simp)) (Fld.ne F7 F10 (by simp)) (Fld.ne F8 F9 (by simp)) (Fld.ne F8 F10 (by simp)) p e ha hc hk s m _ below hf ((Spec.applies_iff_loose hf).mp happ).1 ⟨rfl, State.Warmed39.refl s, rfl⟩ trivial
  refine ⟨n, _, h1, h2, h3, hpost _ _ _ _ _ _ ⟨Cond.after_iff.mpr rfl, Cond.after_iff.mpr (eq_i res_at (Term.int_eval (1)) rfl), trivial⟩ ⟨hq.1, hq.2.1, (hq.2.2.sift fun y hy => Or.inr (N y hy)).mono (by decide) (by decide)⟩⟩
theorem main_1_1 : Claimed_1_1 := comes_1 fun _ _ _ _ _ _ h hF => ⟨h.1, hF⟩
theorem main_1_2 : Claimed_1_2 := comes_1 fun _ _ _ _ _ _ h hF => ⟨h.2.1, hF⟩
end Jvm.Pilot.@@N@@
namespace Jvm.Pilot.@@N@@
open Jvm Jvm.ClassFile Sem Op Lib Jvm.Free Jvm.Stand Jvm.Pilot.@@N@@.Jvm.D
/-! MADE BY PROGRAM (witnessworld.py) out of the Statement's table words and the real class files: 10 classes; the members and pool entries that the words name. The judged class is class 1, her method 2. -/
namespace start1
open Jvm.ClassFile
def u (s : String) : CpInfo := .utf8 (stringToUtf16 s)
/-- a pool by its gaps: so many unusable entries, then the entry; so many at the end -/
def gap : Nat → List CpInfo → List CpInfo
  | 0, r => r
  | n + 1, r => .unusable :: gap n r
def poolList (es : List (Nat × CpInfo)) (last : Nat) : List CpInfo := es.foldr (fun e r => gap e.1 (e.2 :: r)) (gap last [])
def pool (es : List (Nat × CpInfo)) (last : Nat) : Array CpInfo := ⟨poolList es last⟩
def fileOf (pool : Array CpInfo) (this : Nat) (attrs : Array Attribute := #[]) (ms : Array MethodInfo := #[]) (fl : Nat := 33) (sup : Nat := 0) (ifs : Array Nat := #[]) (fds : Array FieldInfo := #[]) : ClassFile where
  minorVersion := 0
  majorVersion := 65
  constantPool := pool
  accessFlags := fl
  thisClass := this
  superClass := sup
  interfaces := ifs
  fields := fds
  methods := ms
  attributes := attrs
def plain (name : String) (sup : Option ClassId) : Class where
  name := name
  kind := .ordinary
  loader := none
  accessFlags := 33
  super := sup
  interfaces := #[]
  cf := none
  fields := #[]
  methods := #[]
  instanceTypes := #[]
  staticTypes := #[]
  resolved := #[]
  callSites := []
  init := .initialized
  statics := none
  mirror := none

def pool0 : Array CpInfo := pool [(5, u "<init>"), (0, u "()V"), (1, .class_ 10), (1, u "java/lang/Object")] 113

def k0m0 : Method := { name := "<init>", desc := "()V", sig := { parameters := [], returnType := none }, accessFlags := 1, code := none }
/-- java/lang/Object -/
def k0 : Class := { plain "java/lang/Object" none with
  accessFlags := 33
  interfaces := #[]
  cf := some (fileOf pool0 8 #[] #[{ accessFlags := 1, nameIndex := 5, descriptorIndex := 6, attributes := #[] }] 33 0 #[] #[])
  fields := #[]
  methods := #[k0m0]
  instanceTypes := #[]
  staticTypes := #[]
  resolved := Array.replicate 124 none
  statics := none }

def pool1 : Array CpInfo := pool [(2, .class_ 4), (1, u "java/lang/Object"), (0, u "<init>"), (0, u "()V"), (0, .fieldref 8 9), (0, .class_ 10), (0, .nameAndType 11 12), (0, u "com/example/tiro/tiro/vault/DataType"), (0, u "TEXT"), (0, u "Lcom/example/tiro/tiro/vault/DataType;"), (0, .fieldref 8 14), (0, .nameAndType 15 12), (0, u "MULTILINE_TEXT"), (0, .fieldref 8 17), (0, .nameAndType 18 12), (0, u "INTEGER"), (0, .fieldref 8 20), (0, .nameAndType 21 12), (0, u "INTEGER64"), (0, .fieldref 8 23), (0, .nameAndType 24 12), (0, u "REAL"), (0, .fieldref 8 26), (0, .nameAndType 27 12), (0, u "DATE"), (0, .fieldref 8 29), (0, .nameAndType 30 12), (0, u "TIME"), (0, .fieldref 8 32), (0, .nameAndType 33 12), (0, u "TIMESTAMP"), (0, .fieldref 8 35), (0, .nameAndType 36 12), (0, u "BOOLEAN"), (0, .fieldref 8 38), (0, .nameAndType 39 12), (0, u "LOOKUP"), (0, .fieldref 8 41), (0, .nameAndType 42 12), (0, u "MULTI_SELECT_LOOKUP"), (0, .integer 2147483647), (0, .methodref 45 46), (0, .class_ 47), (0, .nameAndType 48 49), (0, u "com/example/tiro/tiro/vault/DataTypeIsLookupPinLaw"), (0, u "pick"), (0, u "(I)Lcom/example/tiro/tiro/vault/DataType;"), (0, .methodref 8 51), (0, .nameAndType 52 53), (0, u "isLookup"), (0, u "()Z"), (3, u "law"), (0, u "(I)Z")] 2

def k1m0 : Method := { name := "<init>", desc := "()V", sig := { parameters := [], returnType := none }, accessFlags := 2, code := none }
def k1c1 : Code := { maxStack := 2, maxLocals := 1, code := method_2_code, exceptionTable := #[], attributes := #[] }
def k1m1 : Method := { name := "pick", desc := "(I)Lcom/example/tiro/tiro/vault/DataType;", sig := { parameters := [.int], returnType := some (.object "com/example/tiro/tiro/vault/DataType") }, accessFlags := 10, code := some k1c1 }
def k1c2 : Code := { maxStack := 2, maxLocals := 4, code := code, exceptionTable := #[], attributes := #[] }
def k1m2 : Method := { name := "law", desc := "(I)Z", sig := { parameters := [.int], returnType := some .boolean }, accessFlags := 9, code := some k1c2 }
/-- com/example/tiro/tiro/vault/DataTypeIsLookupPinLaw -/
def k1 : Class := { plain "com/example/tiro/tiro/vault/DataTypeIsLookupPinLaw" (some 0) with
  accessFlags := 49
  interfaces := #[]
  cf := some (fileOf pool1 45 #[] #[{ accessFlags := 2, nameIndex := 5, descriptorIndex := 6, attributes := #[] }, { accessFlags := 10, nameIndex := 48, descriptorIndex := 49, attributes := #[] }, { accessFlags := 9, nameIndex := 57, descriptorIndex := 58, attributes := #[] }] 49 2 #[] #[])
  fields := #[]
  methods := #[k1m0, k1m1, k1m2]
  instanceTypes := #[]
  staticTypes := #[]
  resolved := Array.replicate 61 none
  statics := none }

def pool2 : Array CpInfo := pool [(1, .class_ 2), (0, u "java/lang/constant/Constable"), (0, .class_ 4), (0, u "java/lang/Object")] 6

/-- java/lang/constant/Constable -/
def k2 : Class := { plain "java/lang/constant/Constable" (some 0) with
  accessFlags := 1537
  interfaces := #[]
  cf := some (fileOf pool2 1 #[] #[] 1537 3 #[] #[])
  fields := #[]
  methods := #[]
  instanceTypes := #[]
  staticTypes := #[]
  resolved := Array.replicate 11 none
  statics := none }

def pool3 : Array CpInfo := pool [(1, .class_ 2), (0, u "java/lang/Comparable"), (0, .class_ 4), (0, u "java/lang/Object")] 7

/-- java/lang/Comparable -/
def k3 : Class := { plain "java/lang/Comparable" (some 0) with
  accessFlags := 1537
  interfaces := #[]
  cf := some (fileOf pool3 1 #[] #[] 1537 3 #[] #[])
  fields := #[]
  methods := #[]
  instanceTypes := #[]
  staticTypes := #[]
  resolved := Array.replicate 12 none
  statics := none }

def pool4 : Array CpInfo := pool [(1, .class_ 2), (0, u "java/io/Serializable"), (0, .class_ 4), (0, u "java/lang/Object")] 2

/-- java/io/Serializable -/
def k4 : Class := { plain "java/io/Serializable" (some 0) with
  accessFlags := 1537
  interfaces := #[]
  cf := some (fileOf pool4 1 #[] #[] 1537 3 #[] #[])
  fields := #[]
  methods := #[]
  instanceTypes := #[]
  staticTypes := #[]
  resolved := Array.replicate 7 none
  statics := none }

def pool5 : Array CpInfo := pool [(2, .class_ 4), (1, u "java/lang/Enum"), (0, u "name"), (0, u "Ljava/lang/String;"), (2, u "ordinal"), (0, u "I"), (1, .class_ 14), (1, u "java/lang/Object"), (4, u "hash"), (86, .class_ 108), (1, u "java/lang/Enum$EnumDesc"), (2, .class_ 112), (0, u "java/lang/constant/Constable"), (0, .class_ 114), (0, u "java/lang/Comparable"), (0, .class_ 116), (0, u "java/io/Serializable")] 87

/-- java/lang/Enum -/
def k5 : Class := { plain "java/lang/Enum" (some 0) with
  accessFlags := 1057
  interfaces := #[2, 3, 4]
  cf := some (fileOf pool5 2 #[.nestMembers #[106]] #[] 1057 12 #[111, 113, 115] #[{ accessFlags := 18, nameIndex := 5, descriptorIndex := 6, attributes := #[] }, { accessFlags := 18, nameIndex := 9, descriptorIndex := 10, attributes := #[] }, { accessFlags := 2, nameIndex := 19, descriptorIndex := 10, attributes := #[] }])
  fields := #[{ name := "name", type := (.object "java/lang/String"), accessFlags := 18, slot := 0, constantValue := 0 }, { name := "ordinal", type := .int, accessFlags := 18, slot := 1, constantValue := 0 }, { name := "hash", type := .int, accessFlags := 2, slot := 2, constantValue := 0 }]
  methods := #[]
  instanceTypes := #[(.object "java/lang/String"), .int, .int]
  staticTypes := #[]
  resolved := Array.replicate 204 none
  statics := none }

def pool6 : Array CpInfo := pool [(1, .class_ 2), (0, u "com/example/tiro/tiro/vault/DataType"), (2, u "TEXT"), (0, u "Lcom/example/tiro/tiro/vault/DataType;"), (2, u "MULTILINE_TEXT"), (2, u "INTEGER"), (2, u "INTEGER64"), (2, u "REAL"), (2, u "DATE"), (2, u "TIME"), (2, u "TIMESTAMP"), (2, u "BOOLEAN"), (0, .fieldref 1 32), (0, .nameAndType 33 6), (0, u "LOOKUP"), (0, .fieldref 1 35), (0, .nameAndType 36 6), (0, u "MULTI_SELECT_LOOKUP"), (2, u "$VALUES"), (0, u "[Lcom/example/tiro/tiro/vault/DataType;"), (6, .class_ 49), (1, u "java/lang/Enum"), (8, u "id"), (0, u "Ljava/lang/String;"), (2, u "form"), (22, u "isLookup"), (0, u "()Z"), (14, u "TIME_WRITTEN"), (0, u "Ljava/time/format/DateTimeFormatter;"), (45, u "DATE_FORM"), (0, u "Ljava/util/regex/Pattern;"), (12, u "TIME_FORM"), (142, u "TIMESTAMP_FORM"), (30, u "INTEGER_TEXT"), (6, u "REAL_TEXT"), (103, u "ITEM_SEPARATOR")] 45

def k6c0 : Code := { maxStack := 2, maxLocals := 1, code := prog_25_method_6_code, exceptionTable := #[], attributes := #[] }
def k6m0 : Method := { name := "isLookup", desc := "()Z", sig := { parameters := [], returnType := some .boolean }, accessFlags := 1, code := some k6c0 }
/-- com/example/tiro/tiro/vault/DataType -/
def k6 : Class := { plain "com/example/tiro/tiro/vault/DataType" (some 5) with
  accessFlags := 16433
  interfaces := #[]
  cf := some (fileOf pool6 1 #[] #[{ accessFlags := 1, nameIndex := 85, descriptorIndex := 86, attributes := #[] }] 16433 47 #[] #[{ accessFlags := 16409, nameIndex := 5, descriptorIndex := 6, attributes := #[] }, { accessFlags := 16409, nameIndex := 9, descriptorIndex := 6, attributes := #[] }, { accessFlags := 16409, nameIndex := 12, descriptorIndex := 6, attributes := #[] }, { accessFlags := 16409, nameIndex := 15, descriptorIndex := 6, attributes := #[] }, { accessFlags := 16409, nameIndex := 18, descriptorIndex := 6, attributes := #[] }, { accessFlags := 16409, nameIndex := 21, descriptorIndex := 6, attributes := #[] }, { accessFlags := 16409, nameIndex := 24, descriptorIndex := 6, attributes := #[] }, { accessFlags := 16409, nameIndex := 27, descriptorIndex := 6, attributes := #[] }, { accessFlags := 16409, nameIndex := 30, descriptorIndex := 6, attributes := #[] }, { accessFlags := 16409, nameIndex := 33, descriptorIndex := 6, attributes := #[] }, { accessFlags := 16409, nameIndex := 36, descriptorIndex := 6, attributes := #[] }, { accessFlags := 26, nameIndex := 148, descriptorIndex := 149, attributes := #[] }, { accessFlags := 26, nameIndex := 162, descriptorIndex := 149, attributes := #[] }, { accessFlags := 26, nameIndex := 305, descriptorIndex := 149, attributes := #[] }, { accessFlags := 26, nameIndex := 101, descriptorIndex := 102, attributes := #[] }, { accessFlags := 26, nameIndex := 336, descriptorIndex := 149, attributes := #[] }, { accessFlags := 26, nameIndex := 343, descriptorIndex := 149, attributes := #[] }, { accessFlags := 26, nameIndex := 447, descriptorIndex := 59, attributes := #[] }, { accessFlags := 18, nameIndex := 58, descriptorIndex := 59, attributes := #[] }, { accessFlags := 18, nameIndex := 62, descriptorIndex := 59, attributes := #[] }, { accessFlags := 4122, nameIndex := 39, descriptorIndex := 40, attributes := #[] }])
  fields := #[{ name := "TEXT", type := (.object "com/example/tiro/tiro/vault/DataType"), accessFlags := 16409, slot := 0, constantValue := 0 }, { name := "MULTILINE_TEXT", type := (.object "com/example/tiro/tiro/vault/DataType"), accessFlags := 16409, slot := 1, constantValue := 0 }, { name := "INTEGER", type := (.object "com/example/tiro/tiro/vault/DataType"), accessFlags := 16409, slot := 2, constantValue := 0 }, { name := "INTEGER64", type := (.object "com/example/tiro/tiro/vault/DataType"), accessFlags := 16409, slot := 3, constantValue := 0 }, { name := "REAL", type := (.object "com/example/tiro/tiro/vault/DataType"), accessFlags := 16409, slot := 4, constantValue := 0 }, { name := "DATE", type := (.object "com/example/tiro/tiro/vault/DataType"), accessFlags := 16409, slot := 5, constantValue := 0 }, { name := "TIME", type := (.object "com/example/tiro/tiro/vault/DataType"), accessFlags := 16409, slot := 6, constantValue := 0 }, { name := "TIMESTAMP", type := (.object "com/example/tiro/tiro/vault/DataType"), accessFlags := 16409, slot := 7, constantValue := 0 }, { name := "BOOLEAN", type := (.object "com/example/tiro/tiro/vault/DataType"), accessFlags := 16409, slot := 8, constantValue := 0 }, { name := "LOOKUP", type := (.object "com/example/tiro/tiro/vault/DataType"), accessFlags := 16409, slot := 9, constantValue := 0 }, { name := "MULTI_SELECT_LOOKUP", type := (.object "com/example/tiro/tiro/vault/DataType"), accessFlags := 16409, slot := 10, constantValue := 0 }, { name := "DATE_FORM", type := (.object "java/util/regex/Pattern"), accessFlags := 26, slot := 11, constantValue := 0 }, { name := "TIME_FORM", type := (.object "java/util/regex/Pattern"), accessFlags := 26, slot := 12, constantValue := 0 }, { name := "TIMESTAMP_FORM", type := (.object "java/util/regex/Pattern"), accessFlags := 26, slot := 13, constantValue := 0 }, { name := "TIME_WRITTEN", type := (.object "java/time/format/DateTimeFormatter"), accessFlags := 26, slot := 14, constantValue := 0 }, { name := "INTEGER_TEXT", type := (.object "java/util/regex/Pattern"), accessFlags := 26, slot := 15, constantValue := 0 }, { name := "REAL_TEXT", type := (.object "java/util/regex/Pattern"), accessFlags := 26, slot := 16, constantValue := 0 }, { name := "ITEM_SEPARATOR", type := (.object "java/lang/String"), accessFlags := 26, slot := 17, constantValue := 0 }, { name := "id", type := (.object "java/lang/String"), accessFlags := 18, slot := 3, constantValue := 0 }, { name := "form", type := (.object "java/lang/String"), accessFlags := 18, slot := 4, constantValue := 0 }, { name := "$VALUES", type := (.array (.object "com/example/tiro/tiro/vault/DataType")), accessFlags := 4122, slot := 18, constantValue := 0 }]
  methods := #[k6m0]
  instanceTypes := #[(.object "java/lang/String"), .int, .int, (.object "java/lang/String"), (.object "java/lang/String")]
  staticTypes := #[(.object "com/example/tiro/tiro/vault/DataType"), (.object "com/example/tiro/tiro/vault/DataType"), (.object "com/example/tiro/tiro/vault/DataType"), (.object "com/example/tiro/tiro/vault/DataType"), (.object "com/example/tiro/tiro/vault/DataType"), (.object "com/example/tiro/tiro/vault/DataType"), (.object "com/example/tiro/tiro/vault/DataType"), (.object "com/example/tiro/tiro/vault/DataType"), (.object "com/example/tiro/tiro/vault/DataType"), (.object "com/example/tiro/tiro/vault/DataType"), (.object "com/example/tiro/tiro/vault/DataType"), (.object "java/util/regex/Pattern"), (.object "java/util/regex/Pattern"), (.object "java/util/regex/Pattern"), (.object "java/time/format/DateTimeFormatter"), (.object "java/util/regex/Pattern"), (.object "java/util/regex/Pattern"), (.object "java/lang/String"), (.array (.object "com/example/tiro/tiro/vault/DataType"))]
  resolved := Array.replicate 493 none
  statics := some 0 }

def pool7 : Array CpInfo := pool [(1, u "java/lang/Cloneable"), (0, .class_ 1), (0, u "java/lang/Object"), (0, .class_ 3)] 3

/-- java/lang/Cloneable -/
def k7 : Class := { plain "java/lang/Cloneable" (some 0) with
  accessFlags := 1537
  interfaces := #[]
  cf := some (fileOf pool7 2 #[] #[] 1537 4 #[] #[])
  fields := #[]
  methods := #[]
  instanceTypes := #[]
  staticTypes := #[]
  resolved := Array.replicate 8 none
  statics := none }

/-- the primitive byte -/
def k8 : Class := { plain "byte" none with kind := .primitive 'B', accessFlags := 0x411 }
/-- [B -/
def k9 : Class := { plain "[B" (some 0) with kind := .array 8 .byte, interfaces := #[7, 4], accessFlags := 1041 }

def heap : Heap := #[{ cls := 6, slots := #[.ref 1, .ref 2, .ref 3, .ref 4, .ref 5, .ref 6, .ref 7, .ref 8, .ref 9, .ref 10, .ref 11, .null, .null, .null, .null, .null, .null, .null, .null], vm := .statics 6 },
  { cls := 6, slots := #[.null, .int 0, .int 0, .null, .null], vm := .none },
  { cls := 6, slots := #[.null, .int 1, .int 0, .null, .null], vm := .none },
  { cls := 6, slots := #[.null, .int 2, .int 0, .null, .null], vm := .none },
  { cls := 6, slots := #[.null, .int 3, .int 0, .null, .null], vm := .none },
  { cls := 6, slots := #[.null, .int 4, .int 0, .null, .null], vm := .none },
  { cls := 6, slots := #[.null, .int 5, .int 0, .null, .null], vm := .none },
  { cls := 6, slots := #[.null, .int 6, .int 0, .null, .null], vm := .none },
  { cls := 6, slots := #[.null, .int 7, .int 0, .null, .null], vm := .none },
  { cls := 6, slots := #[.null, .int 8, .int 0, .null, .null], vm := .none },
  { cls := 6, slots := #[.null, .int 9, .int 0, .null, .null], vm := .none },
  { cls := 6, slots := #[.null, .int 10, .int 0, .null, .null], vm := .none }]
def classes : Array Class := #[k0, k1, k2, k3, k4, k5, k6, k7, k8, k9]
def interned : List (Array UInt16 × Addr) := []
def slotsUsed : Nat := 74
def theMethod : MethodId := ⟨1, 2⟩
def args0 : Array Value := #[.int 5]
def aboutOver (below : List Frame) : State where
  vm := { classes := classes, interned := interned.toArray }
  heap := heap
  slotsUsed := slotsUsed
  threads := #[{ frames := .invoking theMethod args0 :: below }]
def below0 : List Frame := [.native { method := ⟨0, 0⟩, args := #[] }]
def about1 : State := aboutOver below0
def p0 : Program := .bare "" "" ""
def e0 : Env := launch0.env 0 0 0
theorem w_frames : about1.frames = Frame.invoking theMethod args0 :: below0 := rfl
set_option maxRecDepth 65536 in
theorem w_args : argsFit about1.vm theMethod args0 = true := by decide +kernel
set_option maxRecDepth 65536 in
theorem w_heap : heapFits about1 = true := by decide +kernel
set_option maxRecDepth 65536 in
theorem w_runnable : about1.curStatus? = some .runnable := by decide +kernel
set_option maxRecDepth 65536 in
theorem w_alone : about1.alone = true := by decide +kernel
set_option maxRecDepth 65536 in
theorem w_named : about1.methodNamed? x = some theMethod := by decide +kernel
set_option maxRecDepth 65536 in
theorem w_hears : about1.hears theMethod below0 = true := by decide +kernel
set_option maxRecDepth 65536 in
theorem w_ripe : about1.ripe theMethod args0 below0 = true := by decide +kernel
theorem w_running : about1.status = .running := rfl
set_option maxRecDepth 65536 in
theorem w_room : about1.hasRoom e0.platform room_1 = true :=
  launch0.hasRoom_least _ room_1 (by decide +kernel) (by decide +kernel) (by decide +kernel) (by decide +kernel) (by decide +kernel) (by decide +kernel)
theorem allAtoms_all (ts : List Jvm.Cond) (a : Array Jvm.Value) (st : Jvm.State) : (allAtoms ts).before a st = ts.all (fun c => c.before a st) := by
  induction ts with
  | nil => rfl
  | cons c t ih =>
    show (Jvm.Cond.and c (allAtoms t)).before a st = _
    rw [Jvm.Cond.before_and, ih, List.all_cons]
def words1 : List Jvm.Cond := Jvm.Cond.code x code maxLocals ret :: tables_1
/-- a 'code' word, met by the world's own term for the bytes: nothing is compared byte by byte -/
theorem code_word {y : MethodName} {bytes : ByteArray} {mx : Nat} {rt : Option FieldType} {a : Array Value} {s : State} {m : MethodId} {meth : Method} {c : Code} (h1 : s.methodNamed? y = some m) (h2 : s.vm.method? m = some meth) (h3 : meth.code = some c) (h4 : c.code = bytes)
    (h5 : (c.maxLocals == mx && c.exceptionTable.isEmpty && decide (c.maxStack ≤ mostOperands) && decide (meth.sig.returnType = rt) && !meth.locks && decide (parseMethodDescriptor y.desc = some meth.sig)) = true) : (Jvm.Cond.code y bytes mx rt).before a s = true := by
  simp only [Bool.and_eq_true, beq_iff_eq, Bool.not_eq_true', decide_eq_true_eq] at h5
  obtain ⟨⟨⟨⟨⟨g1, g2⟩, g3⟩, g4⟩, g5⟩, g6⟩ := h5
  simp [Cond.before, Cond.holds, Cond.value, h1, h2, h3, h4, g1, g2, g3, g4, g5, g6]
def isCode : Jvm.Cond → Bool
  | .code _ _ _ _ => true
  | _ => false
theorem all_split {L : List Jvm.Cond} {P : Jvm.Cond → Bool} (h1 : L.all (fun c => isCode c || P c) = true) (h2 : ∀ c ∈ L.filter isCode, P c = true) : L.all P = true := by
  refine List.all_eq_true.mpr fun c hc => ?_
  have h := List.all_eq_true.mp h1 c hc
  rcases Bool.eq_false_or_eq_true (isCode c) with hi | hi
  · exact h2 c (List.mem_filter.mpr ⟨hc, hi⟩)
  · simpa [hi] using h
set_option maxRecDepth 65536 in
theorem w_c0 : (Jvm.Cond.code x code maxLocals ret).before args0 about1 = true := code_word (m := ⟨1, 2⟩) (meth := k1m2) (c := k1c2) (by decide +kernel) rfl rfl rfl (by decide +kernel)
set_option maxRecDepth 65536 in
theorem w_c1 : (Jvm.Cond.code ({ cls := "com/example/tiro/tiro/vault/DataTypeIsLookupPinLaw", name := "pick", desc := "(I)Lcom/example/tiro/tiro/vault/DataType;" } : Jvm.MethodName) method_2_code (1 : Nat) (Option.some (Jvm.ClassFile.FieldType.object "com/example/tiro/tiro/vault/DataType"))).before args0 about1 = true := code_word (m := ⟨1, 1⟩) (meth := k1m1) (c := k1c1) (by decide +kernel) rfl rfl rfl (by decide +kernel)
set_option maxRecDepth 65536 in
theorem w_c2 : (Jvm.Cond.code ({ cls := "com/example/tiro/tiro/vault/DataType", name := "isLookup", desc := "()Z" } : Jvm.MethodName) prog_25_method_6_code (1 : Nat) (Option.some Jvm.ClassFile.FieldType.boolean)).before args0 about1 = true := code_word (m := ⟨6, 0⟩) (meth := k6m0) (c := k6c0) (by decide +kernel) rfl rfl rfl (by decide +kernel)
def codes1 : List Jvm.Cond := [Jvm.Cond.code x code maxLocals ret, Jvm.Cond.code ({ cls := "com/example/tiro/tiro/vault/DataTypeIsLookupPinLaw", name := "pick", desc := "(I)Lcom/example/tiro/tiro/vault/DataType;" } : Jvm.MethodName) method_2_code (1 : Nat) (Option.some (Jvm.ClassFile.FieldType.object "com/example/tiro/tiro/vault/DataType")), Jvm.Cond.code ({ cls := "com/example/tiro/tiro/vault/DataType", name := "isLookup", desc := "()Z" } : Jvm.MethodName) prog_25_method_6_code (1 : Nat) (Option.some Jvm.ClassFile.FieldType.boolean)]
set_option maxRecDepth 65536 in
theorem codes_eq : words1.filter isCode = codes1 := rfl
theorem w_codes : ∀ c ∈ words1.filter isCode, c.before args0 about1 = true := by
  rw [codes_eq]
  intro c hc
  simp only [codes1, List.mem_cons, List.not_mem_nil, or_false] at hc
  rcases hc with rfl | rfl | rfl
  · exact w_c0
  · exact w_c1
  · exact w_c2
set_option maxRecDepth 65536 in
theorem w_t1 : (words1.take 24).all (fun c => isCode c || c.before args0 about1) = true := by decide +kernel
set_option maxRecDepth 65536 in
theorem w_t2 : (words1.drop 24).all (fun c => isCode c || c.before args0 about1) = true := by decide +kernel
theorem w_tables : (allAtoms (Jvm.Cond.code x code maxLocals ret :: tables_1)).before args0 about1 = true := by
  rw [allAtoms_all]
  show words1.all (fun c => c.before args0 about1) = true
  refine all_split ?_ w_codes
  rw [← List.take_append_drop 24 words1, List.all_append, w_t1, w_t2]
  rfl
set_option maxRecDepth 65536 in
theorem w_case : (Jvm.Cond.and given_1 narrow_1).before args0 about1 = true := by decide +kernel
theorem w_applies : (headSpec (Jvm.Cond.code x code maxLocals ret :: tables_1) room_1).applies x e0.platform about1 = true :=
  (Spec.applies_iff w_frames).mpr ⟨w_running, w_runnable, w_alone, w_named, w_hears, w_ripe, w_room, w_tables⟩
theorem atStart : AtStart classFile x code maxLocals ret World_1 tables_1 room_1 Calls_1 rest_1 Pre_1 launch0 p0 e0 about1 theMethod args0 below0 :=
  ⟨lists_1, trivial, launch0.admits_env _ _ _, launch0.least_env, fairChoices_fair.cas, fairChoices_fair.clock, w_frames, w_args, w_heap, w_applies, trivial, trivial, w_case⟩
end start1
theorem witness_1 : WitnessClaimed_1 := ⟨start1.p0, start1.e0, start1.about1, start1.theMethod, start1.args0, start1.below0, start1.atStart⟩
end Jvm.Pilot.@@N@@
