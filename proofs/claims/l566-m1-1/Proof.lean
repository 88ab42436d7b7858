import JvmDerived
import JvmDerived.Pilot.@@N@@Statement
import JvmDerived.Pilot.@@N@@Code
set_option linter.unusedVariables false
set_option linter.unusedSimpArgs false

namespace Jvm.Pilot.@@N@@
open Jvm Jvm.ClassFile Sem Op Lib Jvm.Free Jvm.Stand Jvm.LawKit Jvm.RoadKit Bundle Jvm.Pilot.@@N@@.Jvm.D
/-- from the frame g' at S' the run comes to the frame g at S -/
abbrev Go (p : Program) (e : Env) (below : List Frame) (S : State) (g : JFrame) (S' : State) (g' : JFrame) : Prop := ∀ t, Steps p.tables e below (S.setTop g) t → Steps p.tables e below (S'.setTop g') t

theorem own_fld {args : Array Value} {s : State} {t : Term} {x : Addr} {C n d : String} {k : Int32} (ht : t.eval args s none [] s = some (.ref x)) (h : (Jvm.Cond.eq (.field t C n d) (.int k)).value args s none s [] = some true) : Fld s s.heap x C n d (.int k) := by
  obtain ⟨y, z, h1, h2, h3, -⟩ := cmp_v (Or.inl h)
  have h2' : z = .int k := by simpa [Term.eval] using h2.symm
  subst h2'
  obtain ⟨u, rfl⟩ : ∃ u, y = .int u := by cases y <;> simp [Kin, Value.isRef] at h3 ⊢
  have h4 : u = k := by simpa [Jvm.Cond.value, h1, h2] using h
  subst h4
  exact Fld.start ((fld_at ht).symm.trans h1)

section Tab
variable {args : Array Value} {s : State} {t : Term} {a : Addr} {cl : Cell}
theorem own_elv (T : Tab s s.heap a cl .boolean 128) (hst : ∀ idx, t.eval args s none idx s = some (.ref a)) (hal : s.arrayAt? a = some cl) {u : Term} {idx : List Nat} {j : Int32} (hu : u.eval args s none idx s = some (.int j)) (hj : ¬ (j < 0 ∨ cl.slots.size ≤ j.toNatClampNeg)) : (Term.elem t u).eval args s none idx s = some (.int (atv cl j)) :=
  (elem_f (hst idx) hu hal (fun q => hj (Or.inl q))).trans (T.2.2.2 j hj)
theorem own_all2 (T : Tab s s.heap a cl .boolean 128) (hst : ∀ idx, t.eval args s none idx s = some (.ref a)) (hal : s.arrayAt? a = some cl) {b v : Int32} (h : (Jvm.Cond.all t (.or (.le (.int b) (.index 0)) (.eq (.elem t (.index 0)) (.int v)))).value args s none s [] = some true) (j : Int32) (hj : ¬ (j < 0 ∨ cl.slots.size ≤ j.toNatClampNeg)) : b ≤ j ∨ atv cl j = v := by
  have q := Cond.all_elim (hst []) hal h j.toNatClampNeg (Nat.lt_of_not_le fun y => hj (Or.inr y))
  have hi := idx_at (args := args) (first := s) (o := none) (s := s) (j := j) (fun y => hj (Or.inl y))
  exact or_e2 (Cond.le_ints (Term.int_eval b) hi) (Cond.eq_ints (own_elv T hst hal hi hj) (Term.int_eval v)) q
theorem own_all3 (T : Tab s s.heap a cl .boolean 128) (hst : ∀ idx, t.eval args s none idx s = some (.ref a)) (hal : s.arrayAt? a = some cl) {b c v : Int32} (h : (Jvm.Cond.all t (.or (.lt (.index 0) (.int b)) (.or (.le (.int c) (.index 0)) (.eq (.elem t (.index 0)) (.int v))))).value args s none s [] = some true) (j : Int32) (hj : ¬ (j < 0 ∨ cl.slots.size ≤ j.toNatClampNeg)) : j < b ∨ ¬ j < c ∨ atv cl j = v := by
  have q := Cond.all_elim (hst []) hal h j.toNatClampNeg (Nat.lt_of_not_le fun y => hj (Or.inr y))
  have hi := idx_at (args := args) (first := s) (o := none) (s := s) (j := j) (fun y => hj (Or.inl y))
  exact or3 q (Cond.lt_ints hi (Term.int_eval b)) (Cond.le_ints (Term.int_eval c) hi) (Cond.eq_ints (own_elv T hst hal hi hj) (Term.int_eval v))
theorem own_one (T : Tab s s.heap a cl .boolean 128) (hst : ∀ idx, t.eval args s none idx s = some (.ref a)) (hal : s.arrayAt? a = some cl) {k v : Int32} (hj : ¬ (k < 0 ∨ cl.slots.size ≤ k.toNatClampNeg)) (h : (Jvm.Cond.eq (.elem t (.int k)) (.int v)).value args s none s [] = some true) : atv cl k = v :=
  gotT (Cond.eq_ints (own_elv T hst hal (Term.int_eval k) hj) (Term.int_eval v)) h
end Tab
def tokF (cl : Cell) (c : Int32) : Int32 := if c < 0 then 0 else if c < 128 then (if atv cl c = 0 then 0 else 1) else 0
theorem dT_0 : decode prog_11_method_22_code 0 = .ok (.iload_n 0, 1) := by decide +kernel
theorem dT_1 : decode prog_11_method_22_code 1 = .ok (.ifCond .lt 23, 3) := by decide +kernel
theorem dT_4 : decode prog_11_method_22_code 4 = .ok (.iload_n 0, 1) := by decide +kernel
theorem dT_5 : decode prog_11_method_22_code 5 = .ok (.getstatic 262, 3) := by decide +kernel
theorem dT_8 : decode prog_11_method_22_code 8 = .ok (.arraylength, 1) := by decide +kernel
theorem dT_9 : decode prog_11_method_22_code 9 = .ok (.if_icmp .ge 15, 3) := by decide +kernel
theorem dT_12 : decode prog_11_method_22_code 12 = .ok (.getstatic 262, 3) := by decide +kernel
theorem dT_15 : decode prog_11_method_22_code 15 = .ok (.iload_n 0, 1) := by decide +kernel
theorem dT_16 : decode prog_11_method_22_code 16 = .ok (.baload, 1) := by decide +kernel
theorem dT_17 : decode prog_11_method_22_code 17 = .ok (.ifCond .eq 7, 3) := by decide +kernel
theorem dT_20 : decode prog_11_method_22_code 20 = .ok (.iconst 1, 1) := by decide +kernel
theorem dT_21 : decode prog_11_method_22_code 21 = .ok (.goto 4, 3) := by decide +kernel
theorem dT_24 : decode prog_11_method_22_code 24 = .ok (.iconst 0, 1) := by decide +kernel
theorem dT_25 : decode prog_11_method_22_code 25 = .ok (.ireturn, 1) := by decide +kernel
theorem pnT : plainName "com/example/oxpecker/oxpecker/http/HttpInput" = true := by first | (simp [plainName, overriddenIn]; done) | decide +kernel
theorem efT (m : MethodId) (p1 : Int32) : entryFrame m #[(.int p1)] 1 = mkF m 0 #[.val (.int p1)] [] := by first | (simp [entryFrame, mkF, argsToLocals, Value.category]; done) | rfl
def QT (Z : State) (p1 : Int32) (ta : Addr) (cl : Cell) (r : Int32) (h0 : Heap) (n0 : Nat) (v : Option Value) (h : Heap) (L : List Loc) : Prop := v = some (.int r) ∧ Fr n0 L ∧ h = h0
set_option maxRecDepth 65536 in
set_option maxHeartbeats 40000000 in
theorem rmT (l : Launch) (Z : State) (a0 : Array Value) (hw : ∀ d ∈ tables_1, d.before a0 Z = true) (ws : List Jvm.Cond) (p1 : Int32) (ta : Addr) (cl : Cell) (r : Int32) (h0 : Heap) (n0 : Nat) (Z0 : n0 ≤ h0.size) (S0 : Sta Z h0 "com/example/oxpecker/oxpecker/http/HttpInput" "TOKEN" "[Z" (.ref ta)) (TB : Tab Z h0 ta cl .boolean 128) (hR : tokF cl p1 = r) :
    MetFree l (⟨"com/example/oxpecker/oxpecker/http/HttpInput", "isToken", "(I)Z"⟩ : MethodName) (head1 (Jvm.Cond.code (⟨"com/example/oxpecker/oxpecker/http/HttpInput", "isToken", "(I)Z"⟩ : MethodName) prog_11_method_22_code 1 (some .boolean) :: ws) ({ frames := 0, cells := 0, slots := 0, locals := 0 } : Room)) (fun a U => a = #[(.int p1)] ∧ Z.Warmed39 U.vm ∧ U.heap = h0) (fun _ _ _ _ _ => True) (fun _ U o U' => ∃ v L, o = .returned v ∧ QT Z p1 ta cl r h0 n0 v U'.heap L ∧ FrameEnd U o U' L ({ frames := 0, cells := 0, slots := 0, locals := 0 } : Room).cells ({ frames := 0, cells := 0, slots := 0, locals := 0 } : Room).slots) := by
  refine MetFree.of_bodySF (plainFor_of_name pnT) hisR ?_
  intro p e s m args below meth c s₁ Bd hml0 hP hK
  obtain ⟨rfl, hZ, hh⟩ := hP
  have hx := Bd.exec
  have hby := Bd.bytes
  have hml : c.maxLocals = 1 := hml0
  have hown : s.vm.findClass "com/example/oxpecker/oxpecker/http/HttpInput" = some m.cls := findClass_of_methodNamed Bd.named
  have hnm := (name_of_methodNamed Bd.named Bd.method).1
  have X0 : Stand p l e ({ frames := 0, cells := 0, slots := 0, locals := 0 } : Room) s m #[(.int p1)] below meth c s₁ [] 0 0 := Stand.of_body Bd
  have e0 : s₁.heap = h0 := by rw [← hh, Bd.state]; rfl
  have N0 := Fr.nil n0
  have pre0 : Go p e below s₁ (mkF m 0 #[.val (.int p1)] []) s₁ (entryFrame m #[(.int p1)] 1) := fun t k => castTop (efT m p1) k
  have pre1 : Go p e below s₁ (mkF m 1 #[.val (.int p1)] [(.int p1)]) s₁ (entryFrame m #[(.int p1)] 1) := fun t k => pre0 t (by
      show Steps p.tables e below (s₁.setTop (mkF m 0 #[.val (.int p1)] [])) t
      refine XS.iloadN X0.here hx rfl (hb hby dT_0) rfl ?_
      exact k)
  by_cases hc1 : p1 < (0 : Int32)
  · have pre2 : Go p e below s₁ (mkF m 24 #[.val (.int p1)] []) s₁ (entryFrame m #[(.int p1)] 1) := fun t k => pre1 t (XS.ifYes X0.here hx rfl (pc0 := 1) (pc' := 24) rfl (hb hby dT_1) rfl ((if0 _ _).trans (tlt hc1).1) (by decide) (by decide) k)
    have pre3 : Go p e below s₁ (mkF m 25 #[.val (.int p1)] [(.int (0 : Int32))]) s₁ (entryFrame m #[(.int p1)] 1) := fun t k => pre2 t (by
        show Steps p.tables e below (s₁.setTop (mkF m 24 #[.val (.int p1)] [])) t
        refine XS.iconst X0.here hx rfl (hb hby dT_24) ?_
        exact k)
    have hnr : Value.int (nar .boolean (0 : Int32)) = (.int (0 : Int32)) := by rfl
    obtain ⟨fs, hr, hrun, hended, hW, hsame⟩ := X0.leave (v := some (.int (0 : Int32))) (fun h => by rw [Bd.returns] at h; cases h)
    refine ⟨_, _, pre3 _ (retN X0 hx (t := .boolean) Bd.returns (by simp) (hb hby dT_25) (hnr ▸ hr)), hrun, hended, _, _, rfl, ?_, ⟨_, rfl⟩, hW, hsame.mono (by decide) (by decide)⟩
    show QT Z p1 ta cl r h0 n0 _ s₁.heap _
    rw [e0]
    exact ⟨by rw [← hR]; simp [tokF, hc1], N0, rfl⟩
  · have pre4 : Go p e below s₁ (mkF m 4 #[.val (.int p1)] []) s₁ (entryFrame m #[(.int p1)] 1) := fun t k => pre1 t (XS.ifNo X0.here hx rfl (hb hby dT_1) rfl ((if0 _ _).trans (flt hc1).1) k)
    have pre5 : Go p e below s₁ (mkF m 5 #[.val (.int p1)] [(.int p1)]) s₁ (entryFrame m #[(.int p1)] 1) := fun t k => pre4 t (by
        show Steps p.tables e below (s₁.setTop (mkF m 4 #[.val (.int p1)] [])) t
        refine XS.iloadN X0.here hx rfl (hb hby dT_4) rfl ?_
        exact k)
    obtain ⟨T6, X6, e6, st6⟩ := getS2 X0 hx hZ hown (host := "") (Or.inl (hw _ (List.mem_of_getElem? (i := 4) rfl))) Via.refl e0 S0 (g := (mkF m 5 #[.val (.int p1)] [(.int p1)])) rfl (hb hby dT_5)
    have pre7 : Go p e below T6 (mkF m 8 #[.val (.int p1)] [(.ref ta), (.int p1)]) s₁ (entryFrame m #[(.int p1)] 1) := fun t k => pre5 t (st6 t k)
    have pre8 : Go p e below T6 (mkF m 9 #[.val (.int p1)] [(.int (128 : Int32)), (.int p1)]) s₁ (entryFrame m #[(.int p1)] 1) := fun t k => pre7 t (by
        show Steps p.tables e below (T6.setTop (mkF m 8 #[.val (.int p1)] [(.ref ta), (.int p1)])) t
        refine X6.arraylength hx (by rw [e6]; exact TB.1.1) (State.isArrayOf_alike hZ.alike TB.1.2.1) (g := (mkF m 8 #[.val (.int p1)] [(.ref ta), (.int p1)])) rfl rfl (hb hby dT_8) _ ?_
        rw [len_of TB.2.1 TB.2.2.1]
        exact k)
    by_cases hc9 : p1 < (128 : Int32)
    · have pre9 : Go p e below T6 (mkF m 12 #[.val (.int p1)] []) s₁ (entryFrame m #[(.int p1)] 1) := fun t k => pre8 t (XS.icmpNo X6.here hx rfl (hb hby dT_9) rfl (tlt hc9).2.1 k)
      obtain ⟨T10, X10, e10, st10⟩ := getS2 X6 hx hZ hown (host := "") (Or.inl (hw _ (List.mem_of_getElem? (i := 4) rfl))) Via.refl e6 S0 (g := (mkF m 12 #[.val (.int p1)] [])) rfl (hb hby dT_12)
      have pre11 : Go p e below T10 (mkF m 15 #[.val (.int p1)] [(.ref ta)]) s₁ (entryFrame m #[(.int p1)] 1) := fun t k => pre9 t (st10 t k)
      have pre12 : Go p e below T10 (mkF m 16 #[.val (.int p1)] [(.int p1), (.ref ta)]) s₁ (entryFrame m #[(.int p1)] 1) := fun t k => pre11 t (by
          show Steps p.tables e below (T10.setTop (mkF m 15 #[.val (.int p1)] [(.ref ta)])) t
          refine XS.iloadN X10.here hx rfl (hb hby dT_15) rfl ?_
          exact k)
      have hin : ¬ (p1 < 0 ∨ cl.slots.size ≤ p1.toNatClampNeg) := inb_of TB.2.1 ⟨hc1, hc9⟩
      have pre13 : Go p e below T10 (mkF m 17 #[.val (.int p1)] [(.int (atv cl p1))]) s₁ (entryFrame m #[(.int p1)] 1) := fun t k => pre12 t (by
          show Steps p.tables e below (T10.setTop (mkF m 16 #[.val (.int p1)] [(.int p1), (.ref ta)])) t
          refine X10.baloadBooleans hx (j := p1) (v := .int (atv cl p1)) (by rw [e10]; exact TB.1.1) (State.isArrayOf_alike hZ.alike TB.1.2.1) TB.1.2.2 hin (TB.2.2.2 p1 hin) (g := (mkF m 16 #[.val (.int p1)] [(.int p1), (.ref ta)])) rfl rfl (hb hby dT_16) _ ?_
          exact k)
      by_cases hc17 : (atv cl p1) = (0 : Int32)
      · have pre14 : Go p e below T10 (mkF m 24 #[.val (.int p1)] []) s₁ (entryFrame m #[(.int p1)] 1) := fun t k => pre13 t (XS.ifYes X10.here hx rfl (pc0 := 17) (pc' := 24) rfl (hb hby dT_17) rfl ((if0 _ _).trans (teq hc17).1) (by decide) (by decide) k)
        have pre15 : Go p e below T10 (mkF m 25 #[.val (.int p1)] [(.int (0 : Int32))]) s₁ (entryFrame m #[(.int p1)] 1) := fun t k => pre14 t (by
            show Steps p.tables e below (T10.setTop (mkF m 24 #[.val (.int p1)] [])) t
            refine XS.iconst X10.here hx rfl (hb hby dT_24) ?_
            exact k)
        have hnr : Value.int (nar .boolean (0 : Int32)) = (.int (0 : Int32)) := by rfl
        obtain ⟨fs, hr, hrun, hended, hW, hsame⟩ := X10.leave (v := some (.int (0 : Int32))) (fun h => by rw [Bd.returns] at h; cases h)
        refine ⟨_, _, pre15 _ (retN X10 hx (t := .boolean) Bd.returns (by simp) (hb hby dT_25) (hnr ▸ hr)), hrun, hended, _, _, rfl, ?_, ⟨_, rfl⟩, hW, hsame.mono (by decide) (by decide)⟩
        show QT Z p1 ta cl r h0 n0 _ T10.heap _
        rw [e10]
        exact ⟨by rw [← hR]; simp [tokF, hc1, hc9, hc17], N0, rfl⟩
      · have pre16 : Go p e below T10 (mkF m 20 #[.val (.int p1)] []) s₁ (entryFrame m #[(.int p1)] 1) := fun t k => pre13 t (XS.ifNo X10.here hx rfl (hb hby dT_17) rfl ((if0 _ _).trans (feq hc17).1) k)
        have pre17 : Go p e below T10 (mkF m 25 #[.val (.int p1)] [(.int (1 : Int32))]) s₁ (entryFrame m #[(.int p1)] 1) := fun t k => pre16 t (by
            show Steps p.tables e below (T10.setTop (mkF m 20 #[.val (.int p1)] [])) t
            refine XS.iconst X10.here hx rfl (hb hby dT_20) ?_
            show Steps p.tables e below (T10.setTop (mkF m 21 #[.val (.int p1)] [(.int (1 : Int32))])) t
            refine XS.goto X10.here hx rfl (pc0 := 21) (pc' := 25) rfl (hb hby dT_21) (by decide) (by decide) ?_
            exact k)
        have hnr : Value.int (nar .boolean (1 : Int32)) = (.int (1 : Int32)) := by rfl
        obtain ⟨fs, hr, hrun, hended, hW, hsame⟩ := X10.leave (v := some (.int (1 : Int32))) (fun h => by rw [Bd.returns] at h; cases h)
        refine ⟨_, _, pre17 _ (retN X10 hx (t := .boolean) Bd.returns (by simp) (hb hby dT_25) (hnr ▸ hr)), hrun, hended, _, _, rfl, ?_, ⟨_, rfl⟩, hW, hsame.mono (by decide) (by decide)⟩
        show QT Z p1 ta cl r h0 n0 _ T10.heap _
        rw [e10]
        exact ⟨by rw [← hR]; simp [tokF, hc1, hc9, hc17], N0, rfl⟩
    · have pre18 : Go p e below T6 (mkF m 24 #[.val (.int p1)] []) s₁ (entryFrame m #[(.int p1)] 1) := fun t k => pre8 t (XS.icmpYes X6.here hx rfl (pc0 := 9) (pc' := 24) rfl (hb hby dT_9) rfl (flt hc9).2.1 (by decide) (by decide) k)
      have pre19 : Go p e below T6 (mkF m 25 #[.val (.int p1)] [(.int (0 : Int32))]) s₁ (entryFrame m #[(.int p1)] 1) := fun t k => pre18 t (by
          show Steps p.tables e below (T6.setTop (mkF m 24 #[.val (.int p1)] [])) t
          refine XS.iconst X6.here hx rfl (hb hby dT_24) ?_
          exact k)
      have hnr : Value.int (nar .boolean (0 : Int32)) = (.int (0 : Int32)) := by rfl
      obtain ⟨fs, hr, hrun, hended, hW, hsame⟩ := X6.leave (v := some (.int (0 : Int32))) (fun h => by rw [Bd.returns] at h; cases h)
      refine ⟨_, _, pre19 _ (retN X6 hx (t := .boolean) Bd.returns (by simp) (hb hby dT_25) (hnr ▸ hr)), hrun, hended, _, _, rfl, ?_, ⟨_, rfl⟩, hW, hsame.mono (by decide) (by decide)⟩
      show QT Z p1 ta cl r h0 n0 _ T6.heap _
      rw [e6]
      exact ⟨by rw [← hR]; simp [tokF, hc1, hc9], N0, rfl⟩
theorem own_l0 : (0 : Int32).toInt = 0 := by decide
theorem own_l33 : (33 : Int32).toInt = 33 := by decide
theorem own_l35 : (35 : Int32).toInt = 35 := by decide
theorem own_l36 : (36 : Int32).toInt = 36 := by decide
theorem own_l37 : (37 : Int32).toInt = 37 := by decide
theorem own_l38 : (38 : Int32).toInt = 38 := by decide
theorem own_l39 : (39 : Int32).toInt = 39 := by decide
theorem own_l42 : (42 : Int32).toInt = 42 := by decide
theorem own_l43 : (43 : Int32).toInt = 43 := by decide
theorem own_l45 : (45 : Int32).toInt = 45 := by decide
theorem own_l46 : (46 : Int32).toInt = 46 := by decide
theorem own_l48 : (48 : Int32).toInt = 48 := by decide
theorem own_l57 : (57 : Int32).toInt = 57 := by decide
theorem own_l65 : (65 : Int32).toInt = 65 := by decide
theorem own_l90 : (90 : Int32).toInt = 90 := by decide
theorem own_l94 : (94 : Int32).toInt = 94 := by decide
theorem own_l95 : (95 : Int32).toInt = 95 := by decide
theorem own_l96 : (96 : Int32).toInt = 96 := by decide
theorem own_l97 : (97 : Int32).toInt = 97 := by decide
theorem own_l122 : (122 : Int32).toInt = 122 := by decide
theorem own_l124 : (124 : Int32).toInt = 124 := by decide
theorem own_l126 : (126 : Int32).toInt = 126 := by decide
theorem own_l128 : (128 : Int32).toInt = 128 := by decide
def expF (c : Int32) : Int32 := if ¬ c < 48 ∧ ¬ 57 < c then 1 else if ¬ c < 97 ∧ ¬ 122 < c then 1 else if ¬ c < 65 ∧ ¬ 90 < c then 1 else if c = 33 ∨ c = 35 ∨ c = 36 ∨ c = 37 ∨ c = 38 ∨ c = 39 ∨ c = 42 ∨ c = 43 ∨ c = 45 ∨ c = 46 ∨ c = 94 ∨ c = 95 ∨ c = 96 ∨ c = 124 ∨ c = 126 then 1 else 0
theorem dE_0 : decode method_2_code 0 = .ok (.iload_n 0, 1) := by decide +kernel
theorem dE_1 : decode method_2_code 1 = .ok (.bipush 48, 2) := by decide +kernel
theorem dE_3 : decode method_2_code 3 = .ok (.if_icmp .lt 11, 3) := by decide +kernel
theorem dE_6 : decode method_2_code 6 = .ok (.iload_n 0, 1) := by decide +kernel
theorem dE_7 : decode method_2_code 7 = .ok (.bipush 57, 2) := by decide +kernel
theorem dE_9 : decode method_2_code 9 = .ok (.if_icmp .gt 5, 3) := by decide +kernel
theorem dE_12 : decode method_2_code 12 = .ok (.iconst 1, 1) := by decide +kernel
theorem dE_13 : decode method_2_code 13 = .ok (.ireturn, 1) := by decide +kernel
theorem dE_14 : decode method_2_code 14 = .ok (.iload_n 0, 1) := by decide +kernel
theorem dE_15 : decode method_2_code 15 = .ok (.bipush 97, 2) := by decide +kernel
theorem dE_17 : decode method_2_code 17 = .ok (.if_icmp .lt 11, 3) := by decide +kernel
theorem dE_20 : decode method_2_code 20 = .ok (.iload_n 0, 1) := by decide +kernel
theorem dE_21 : decode method_2_code 21 = .ok (.bipush 122, 2) := by decide +kernel
theorem dE_23 : decode method_2_code 23 = .ok (.if_icmp .gt 5, 3) := by decide +kernel
theorem dE_26 : decode method_2_code 26 = .ok (.iconst 1, 1) := by decide +kernel
theorem dE_27 : decode method_2_code 27 = .ok (.ireturn, 1) := by decide +kernel
theorem dE_28 : decode method_2_code 28 = .ok (.iload_n 0, 1) := by decide +kernel
theorem dE_29 : decode method_2_code 29 = .ok (.bipush 65, 2) := by decide +kernel
theorem dE_31 : decode method_2_code 31 = .ok (.if_icmp .lt 11, 3) := by decide +kernel
theorem dE_34 : decode method_2_code 34 = .ok (.iload_n 0, 1) := by decide +kernel
theorem dE_35 : decode method_2_code 35 = .ok (.bipush 90, 2) := by decide +kernel
theorem dE_37 : decode method_2_code 37 = .ok (.if_icmp .gt 5, 3) := by decide +kernel
theorem dE_40 : decode method_2_code 40 = .ok (.iconst 1, 1) := by decide +kernel
theorem dE_41 : decode method_2_code 41 = .ok (.ireturn, 1) := by decide +kernel
theorem dE_42 : decode method_2_code 42 = .ok (.iload_n 0, 1) := by decide +kernel
theorem dE_43 : decode method_2_code 43 = .ok (.bipush 33, 2) := by decide +kernel
theorem dE_45 : decode method_2_code 45 = .ok (.if_icmp .eq 87, 3) := by decide +kernel
theorem dE_48 : decode method_2_code 48 = .ok (.iload_n 0, 1) := by decide +kernel
theorem dE_49 : decode method_2_code 49 = .ok (.bipush 35, 2) := by decide +kernel
theorem dE_51 : decode method_2_code 51 = .ok (.if_icmp .eq 81, 3) := by decide +kernel
theorem dE_54 : decode method_2_code 54 = .ok (.iload_n 0, 1) := by decide +kernel
theorem dE_55 : decode method_2_code 55 = .ok (.bipush 36, 2) := by decide +kernel
theorem dE_57 : decode method_2_code 57 = .ok (.if_icmp .eq 75, 3) := by decide +kernel
theorem dE_60 : decode method_2_code 60 = .ok (.iload_n 0, 1) := by decide +kernel
theorem dE_61 : decode method_2_code 61 = .ok (.bipush 37, 2) := by decide +kernel
theorem dE_63 : decode method_2_code 63 = .ok (.if_icmp .eq 69, 3) := by decide +kernel
theorem dE_66 : decode method_2_code 66 = .ok (.iload_n 0, 1) := by decide +kernel
theorem dE_67 : decode method_2_code 67 = .ok (.bipush 38, 2) := by decide +kernel
theorem dE_69 : decode method_2_code 69 = .ok (.if_icmp .eq 63, 3) := by decide +kernel
theorem dE_72 : decode method_2_code 72 = .ok (.iload_n 0, 1) := by decide +kernel
theorem dE_73 : decode method_2_code 73 = .ok (.bipush 39, 2) := by decide +kernel
theorem dE_75 : decode method_2_code 75 = .ok (.if_icmp .eq 57, 3) := by decide +kernel
theorem dE_78 : decode method_2_code 78 = .ok (.iload_n 0, 1) := by decide +kernel
theorem dE_79 : decode method_2_code 79 = .ok (.bipush 42, 2) := by decide +kernel
theorem dE_81 : decode method_2_code 81 = .ok (.if_icmp .eq 51, 3) := by decide +kernel
theorem dE_84 : decode method_2_code 84 = .ok (.iload_n 0, 1) := by decide +kernel
theorem dE_85 : decode method_2_code 85 = .ok (.bipush 43, 2) := by decide +kernel
theorem dE_87 : decode method_2_code 87 = .ok (.if_icmp .eq 45, 3) := by decide +kernel
theorem dE_90 : decode method_2_code 90 = .ok (.iload_n 0, 1) := by decide +kernel
theorem dE_91 : decode method_2_code 91 = .ok (.bipush 45, 2) := by decide +kernel
theorem dE_93 : decode method_2_code 93 = .ok (.if_icmp .eq 39, 3) := by decide +kernel
theorem dE_96 : decode method_2_code 96 = .ok (.iload_n 0, 1) := by decide +kernel
theorem dE_97 : decode method_2_code 97 = .ok (.bipush 46, 2) := by decide +kernel
theorem dE_99 : decode method_2_code 99 = .ok (.if_icmp .eq 33, 3) := by decide +kernel
theorem dE_102 : decode method_2_code 102 = .ok (.iload_n 0, 1) := by decide +kernel
theorem dE_103 : decode method_2_code 103 = .ok (.bipush 94, 2) := by decide +kernel
theorem dE_105 : decode method_2_code 105 = .ok (.if_icmp .eq 27, 3) := by decide +kernel
theorem dE_108 : decode method_2_code 108 = .ok (.iload_n 0, 1) := by decide +kernel
theorem dE_109 : decode method_2_code 109 = .ok (.bipush 95, 2) := by decide +kernel
theorem dE_111 : decode method_2_code 111 = .ok (.if_icmp .eq 21, 3) := by decide +kernel
theorem dE_114 : decode method_2_code 114 = .ok (.iload_n 0, 1) := by decide +kernel
theorem dE_115 : decode method_2_code 115 = .ok (.bipush 96, 2) := by decide +kernel
theorem dE_117 : decode method_2_code 117 = .ok (.if_icmp .eq 15, 3) := by decide +kernel
theorem dE_120 : decode method_2_code 120 = .ok (.iload_n 0, 1) := by decide +kernel
theorem dE_121 : decode method_2_code 121 = .ok (.bipush 124, 2) := by decide +kernel
theorem dE_123 : decode method_2_code 123 = .ok (.if_icmp .eq 9, 3) := by decide +kernel
theorem dE_126 : decode method_2_code 126 = .ok (.iload_n 0, 1) := by decide +kernel
theorem dE_127 : decode method_2_code 127 = .ok (.bipush 126, 2) := by decide +kernel
theorem dE_129 : decode method_2_code 129 = .ok (.if_icmp .ne 7, 3) := by decide +kernel
theorem dE_132 : decode method_2_code 132 = .ok (.iconst 1, 1) := by decide +kernel
theorem dE_133 : decode method_2_code 133 = .ok (.goto 4, 3) := by decide +kernel
theorem dE_136 : decode method_2_code 136 = .ok (.iconst 0, 1) := by decide +kernel
theorem dE_137 : decode method_2_code 137 = .ok (.ireturn, 1) := by decide +kernel
theorem pnE : plainName "com/example/oxpecker/oxpecker/http/HttpInputIsTokenPinLaw" = true := by first | (simp [plainName, overriddenIn]; done) | decide +kernel
theorem efE (m : MethodId) (p1 : Int32) : entryFrame m #[(.int p1)] 1 = mkF m 0 #[.val (.int p1)] [] := by first | (simp [entryFrame, mkF, argsToLocals, Value.category]; done) | rfl
def QE (Z : State) (p1 : Int32) (r : Int32) (h0 : Heap) (n0 : Nat) (v : Option Value) (h : Heap) (L : List Loc) : Prop := v = some (.int r) ∧ Fr n0 L ∧ h = h0
set_option maxRecDepth 65536 in
set_option maxHeartbeats 40000000 in
theorem rmE (l : Launch) (Z : State) (a0 : Array Value) (hw : ∀ d ∈ tables_1, d.before a0 Z = true) (ws : List Jvm.Cond) (p1 : Int32) (r : Int32) (h0 : Heap) (n0 : Nat) (Z0 : n0 ≤ h0.size) (hR : expF p1 = r) :
    MetFree l (⟨"com/example/oxpecker/oxpecker/http/HttpInputIsTokenPinLaw", "expectedToken", "(I)Z"⟩ : MethodName) (head1 (Jvm.Cond.code (⟨"com/example/oxpecker/oxpecker/http/HttpInputIsTokenPinLaw", "expectedToken", "(I)Z"⟩ : MethodName) method_2_code 1 (some .boolean) :: ws) ({ frames := 0, cells := 0, slots := 0, locals := 0 } : Room)) (fun a U => a = #[(.int p1)] ∧ Z.Warmed39 U.vm ∧ U.heap = h0) (fun _ _ _ _ _ => True) (fun _ U o U' => ∃ v L, o = .returned v ∧ QE Z p1 r h0 n0 v U'.heap L ∧ FrameEnd U o U' L ({ frames := 0, cells := 0, slots := 0, locals := 0 } : Room).cells ({ frames := 0, cells := 0, slots := 0, locals := 0 } : Room).slots) := by
  refine MetFree.of_bodySF (plainFor_of_name pnE) hisR ?_
  intro p e s m args below meth c s₁ Bd hml0 hP hK
  obtain ⟨rfl, hZ, hh⟩ := hP
  have hx := Bd.exec
  have hby := Bd.bytes
  have hml : c.maxLocals = 1 := hml0
  have hown : s.vm.findClass "com/example/oxpecker/oxpecker/http/HttpInputIsTokenPinLaw" = some m.cls := findClass_of_methodNamed Bd.named
  have hnm := (name_of_methodNamed Bd.named Bd.method).1
  have X0 : Stand p l e ({ frames := 0, cells := 0, slots := 0, locals := 0 } : Room) s m #[(.int p1)] below meth c s₁ [] 0 0 := Stand.of_body Bd
  have e0 : s₁.heap = h0 := by rw [← hh, Bd.state]; rfl
  have N0 := Fr.nil n0
  have pre0 : Go p e below s₁ (mkF m 0 #[.val (.int p1)] []) s₁ (entryFrame m #[(.int p1)] 1) := fun t k => castTop (efE m p1) k
  have pre1 : Go p e below s₁ (mkF m 3 #[.val (.int p1)] [(.int (48 : Int32)), (.int p1)]) s₁ (entryFrame m #[(.int p1)] 1) := fun t k => pre0 t (by
      show Steps p.tables e below (s₁.setTop (mkF m 0 #[.val (.int p1)] [])) t
      refine XS.iloadN X0.here hx rfl (hb hby dE_0) rfl ?_
      show Steps p.tables e below (s₁.setTop (mkF m 1 #[.val (.int p1)] [(.int p1)])) t
      refine XS.bipush X0.here hx rfl (hb hby dE_1) ?_
      exact k)
  by_cases hc3 : p1 < (48 : Int32)
  · have pre2 : Go p e below s₁ (mkF m 14 #[.val (.int p1)] []) s₁ (entryFrame m #[(.int p1)] 1) := fun t k => pre1 t (XS.icmpYes X0.here hx rfl (pc0 := 3) (pc' := 14) rfl (hb hby dE_3) rfl (tlt hc3).1 (by decide) (by decide) k)
    have pre3 : Go p e below s₁ (mkF m 17 #[.val (.int p1)] [(.int (97 : Int32)), (.int p1)]) s₁ (entryFrame m #[(.int p1)] 1) := fun t k => pre2 t (by
        show Steps p.tables e below (s₁.setTop (mkF m 14 #[.val (.int p1)] [])) t
        refine XS.iloadN X0.here hx rfl (hb hby dE_14) rfl ?_
        show Steps p.tables e below (s₁.setTop (mkF m 15 #[.val (.int p1)] [(.int p1)])) t
        refine XS.bipush X0.here hx rfl (hb hby dE_15) ?_
        exact k)
    by_cases hc17 : p1 < (97 : Int32)
    · have pre4 : Go p e below s₁ (mkF m 28 #[.val (.int p1)] []) s₁ (entryFrame m #[(.int p1)] 1) := fun t k => pre3 t (XS.icmpYes X0.here hx rfl (pc0 := 17) (pc' := 28) rfl (hb hby dE_17) rfl (tlt hc17).1 (by decide) (by decide) k)
      have pre5 : Go p e below s₁ (mkF m 31 #[.val (.int p1)] [(.int (65 : Int32)), (.int p1)]) s₁ (entryFrame m #[(.int p1)] 1) := fun t k => pre4 t (by
          show Steps p.tables e below (s₁.setTop (mkF m 28 #[.val (.int p1)] [])) t
          refine XS.iloadN X0.here hx rfl (hb hby dE_28) rfl ?_
          show Steps p.tables e below (s₁.setTop (mkF m 29 #[.val (.int p1)] [(.int p1)])) t
          refine XS.bipush X0.here hx rfl (hb hby dE_29) ?_
          exact k)
      by_cases hc31 : p1 < (65 : Int32)
      · have pre6 : Go p e below s₁ (mkF m 42 #[.val (.int p1)] []) s₁ (entryFrame m #[(.int p1)] 1) := fun t k => pre5 t (XS.icmpYes X0.here hx rfl (pc0 := 31) (pc' := 42) rfl (hb hby dE_31) rfl (tlt hc31).1 (by decide) (by decide) k)
        have pre7 : Go p e below s₁ (mkF m 45 #[.val (.int p1)] [(.int (33 : Int32)), (.int p1)]) s₁ (entryFrame m #[(.int p1)] 1) := fun t k => pre6 t (by
            show Steps p.tables e below (s₁.setTop (mkF m 42 #[.val (.int p1)] [])) t
            refine XS.iloadN X0.here hx rfl (hb hby dE_42) rfl ?_
            show Steps p.tables e below (s₁.setTop (mkF m 43 #[.val (.int p1)] [(.int p1)])) t
            refine XS.bipush X0.here hx rfl (hb hby dE_43) ?_
            exact k)
        by_cases hc45 : p1 = (33 : Int32)
        · have pre8 : Go p e below s₁ (mkF m 132 #[.val (.int p1)] []) s₁ (entryFrame m #[(.int p1)] 1) := fun t k => pre7 t (XS.icmpYes X0.here hx rfl (pc0 := 45) (pc' := 132) rfl (hb hby dE_45) rfl (teq hc45).1 (by decide) (by decide) k)
          have pre9 : Go p e below s₁ (mkF m 137 #[.val (.int p1)] [(.int (1 : Int32))]) s₁ (entryFrame m #[(.int p1)] 1) := fun t k => pre8 t (by
              show Steps p.tables e below (s₁.setTop (mkF m 132 #[.val (.int p1)] [])) t
              refine XS.iconst X0.here hx rfl (hb hby dE_132) ?_
              show Steps p.tables e below (s₁.setTop (mkF m 133 #[.val (.int p1)] [(.int (1 : Int32))])) t
              refine XS.goto X0.here hx rfl (pc0 := 133) (pc' := 137) rfl (hb hby dE_133) (by decide) (by decide) ?_
              exact k)
          have hnr : Value.int (nar .boolean (1 : Int32)) = (.int (1 : Int32)) := by rfl
          obtain ⟨fs, hr, hrun, hended, hW, hsame⟩ := X0.leave (v := some (.int (1 : Int32))) (fun h => by rw [Bd.returns] at h; cases h)
          refine ⟨_, _, pre9 _ (retN X0 hx (t := .boolean) Bd.returns (by simp) (hb hby dE_137) (hnr ▸ hr)), hrun, hended, _, _, rfl, ?_, ⟨_, rfl⟩, hW, hsame.mono (by decide) (by decide)⟩
          show QE Z p1 r h0 n0 _ s₁.heap _
          rw [e0]
          exact ⟨by rw [← hR]; simp [expF, hc3, hc17, hc31, hc45], N0, rfl⟩
        · have pre10 : Go p e below s₁ (mkF m 48 #[.val (.int p1)] []) s₁ (entryFrame m #[(.int p1)] 1) := fun t k => pre7 t (XS.icmpNo X0.here hx rfl (hb hby dE_45) rfl (feq hc45).1 k)
          have pre11 : Go p e below s₁ (mkF m 51 #[.val (.int p1)] [(.int (35 : Int32)), (.int p1)]) s₁ (entryFrame m #[(.int p1)] 1) := fun t k => pre10 t (by
              show Steps p.tables e below (s₁.setTop (mkF m 48 #[.val (.int p1)] [])) t
              refine XS.iloadN X0.here hx rfl (hb hby dE_48) rfl ?_
              show Steps p.tables e below (s₁.setTop (mkF m 49 #[.val (.int p1)] [(.int p1)])) t
              refine XS.bipush X0.here hx rfl (hb hby dE_49) ?_
              exact k)
          by_cases hc51 : p1 = (35 : Int32)
          · have pre12 : Go p e below s₁ (mkF m 132 #[.val (.int p1)] []) s₁ (entryFrame m #[(.int p1)] 1) := fun t k => pre11 t (XS.icmpYes X0.here hx rfl (pc0 := 51) (pc' := 132) rfl (hb hby dE_51) rfl (teq hc51).1 (by decide) (by decide) k)
            have pre13 : Go p e below s₁ (mkF m 137 #[.val (.int p1)] [(.int (1 : Int32))]) s₁ (entryFrame m #[(.int p1)] 1) := fun t k => pre12 t (by
                show Steps p.tables e below (s₁.setTop (mkF m 132 #[.val (.int p1)] [])) t
                refine XS.iconst X0.here hx rfl (hb hby dE_132) ?_
                show Steps p.tables e below (s₁.setTop (mkF m 133 #[.val (.int p1)] [(.int (1 : Int32))])) t
                refine XS.goto X0.here hx rfl (pc0 := 133) (pc' := 137) rfl (hb hby dE_133) (by decide) (by decide) ?_
                exact k)
            have hnr : Value.int (nar .boolean (1 : Int32)) = (.int (1 : Int32)) := by rfl
            obtain ⟨fs, hr, hrun, hended, hW, hsame⟩ := X0.leave (v := some (.int (1 : Int32))) (fun h => by rw [Bd.returns] at h; cases h)
            refine ⟨_, _, pre13 _ (retN X0 hx (t := .boolean) Bd.returns (by simp) (hb hby dE_137) (hnr ▸ hr)), hrun, hended, _, _, rfl, ?_, ⟨_, rfl⟩, hW, hsame.mono (by decide) (by decide)⟩
            show QE Z p1 r h0 n0 _ s₁.heap _
            rw [e0]
            exact ⟨by rw [← hR]; simp [expF, hc3, hc17, hc31, hc45, hc51], N0, rfl⟩
          · have pre14 : Go p e below s₁ (mkF m 54 #[.val (.int p1)] []) s₁ (entryFrame m #[(.int p1)] 1) := fun t k => pre11 t (XS.icmpNo X0.here hx rfl (hb hby dE_51) rfl (feq hc51).1 k)
            have pre15 : Go p e below s₁ (mkF m 57 #[.val (.int p1)] [(.int (36 : Int32)), (.int p1)]) s₁ (entryFrame m #[(.int p1)] 1) := fun t k => pre14 t (by
                show Steps p.tables e below (s₁.setTop (mkF m 54 #[.val (.int p1)] [])) t
                refine XS.iloadN X0.here hx rfl (hb hby dE_54) rfl ?_
                show Steps p.tables e below (s₁.setTop (mkF m 55 #[.val (.int p1)] [(.int p1)])) t
                refine XS.bipush X0.here hx rfl (hb hby dE_55) ?_
                exact k)
            by_cases hc57 : p1 = (36 : Int32)
            · have pre16 : Go p e below s₁ (mkF m 132 #[.val (.int p1)] []) s₁ (entryFrame m #[(.int p1)] 1) := fun t k => pre15 t (XS.icmpYes X0.here hx rfl (pc0 := 57) (pc' := 132) rfl (hb hby dE_57) rfl (teq hc57).1 (by decide) (by decide) k)
              have pre17 : Go p e below s₁ (mkF m 137 #[.val (.int p1)] [(.int (1 : Int32))]) s₁ (entryFrame m #[(.int p1)] 1) := fun t k => pre16 t (by
                  show Steps p.tables e below (s₁.setTop (mkF m 132 #[.val (.int p1)] [])) t
                  refine XS.iconst X0.here hx rfl (hb hby dE_132) ?_
                  show Steps p.tables e below (s₁.setTop (mkF m 133 #[.val (.int p1)] [(.int (1 : Int32))])) t
                  refine XS.goto X0.here hx rfl (pc0 := 133) (pc' := 137) rfl (hb hby dE_133) (by decide) (by decide) ?_
                  exact k)
              have hnr : Value.int (nar .boolean (1 : Int32)) = (.int (1 : Int32)) := by rfl
              obtain ⟨fs, hr, hrun, hended, hW, hsame⟩ := X0.leave (v := some (.int (1 : Int32))) (fun h => by rw [Bd.returns] at h; cases h)
              refine ⟨_, _, pre17 _ (retN X0 hx (t := .boolean) Bd.returns (by simp) (hb hby dE_137) (hnr ▸ hr)), hrun, hended, _, _, rfl, ?_, ⟨_, rfl⟩, hW, hsame.mono (by decide) (by decide)⟩
              show QE Z p1 r h0 n0 _ s₁.heap _
              rw [e0]
              exact ⟨by rw [← hR]; simp [expF, hc3, hc17, hc31, hc45, hc51, hc57], N0, rfl⟩
            · have pre18 : Go p e below s₁ (mkF m 60 #[.val (.int p1)] []) s₁ (entryFrame m #[(.int p1)] 1) := fun t k => pre15 t (XS.icmpNo X0.here hx rfl (hb hby dE_57) rfl (feq hc57).1 k)
              have pre19 : Go p e below s₁ (mkF m 63 #[.val (.int p1)] [(.int (37 : Int32)), (.int p1)]) s₁ (entryFrame m #[(.int p1)] 1) := fun t k => pre18 t (by
                  show Steps p.tables e below (s₁.setTop (mkF m 60 #[.val (.int p1)] [])) t
                  refine XS.iloadN X0.here hx rfl (hb hby dE_60) rfl ?_
                  show Steps p.tables e below (s₁.setTop (mkF m 61 #[.val (.int p1)] [(.int p1)])) t
                  refine XS.bipush X0.here hx rfl (hb hby dE_61) ?_
                  exact k)
              by_cases hc63 : p1 = (37 : Int32)
              · have pre20 : Go p e below s₁ (mkF m 132 #[.val (.int p1)] []) s₁ (entryFrame m #[(.int p1)] 1) := fun t k => pre19 t (XS.icmpYes X0.here hx rfl (pc0 := 63) (pc' := 132) rfl (hb hby dE_63) rfl (teq hc63).1 (by decide) (by decide) k)
                have pre21 : Go p e below s₁ (mkF m 137 #[.val (.int p1)] [(.int (1 : Int32))]) s₁ (entryFrame m #[(.int p1)] 1) := fun t k => pre20 t (by
                    show Steps p.tables e below (s₁.setTop (mkF m 132 #[.val (.int p1)] [])) t
                    refine XS.iconst X0.here hx rfl (hb hby dE_132) ?_
                    show Steps p.tables e below (s₁.setTop (mkF m 133 #[.val (.int p1)] [(.int (1 : Int32))])) t
                    refine XS.goto X0.here hx rfl (pc0 := 133) (pc' := 137) rfl (hb hby dE_133) (by decide) (by decide) ?_
                    exact k)
                have hnr : Value.int (nar .boolean (1 : Int32)) = (.int (1 : Int32)) := by rfl
                obtain ⟨fs, hr, hrun, hended, hW, hsame⟩ := X0.leave (v := some (.int (1 : Int32))) (fun h => by rw [Bd.returns] at h; cases h)
                refine ⟨_, _, pre21 _ (retN X0 hx (t := .boolean) Bd.returns (by simp) (hb hby dE_137) (hnr ▸ hr)), hrun, hended, _, _, rfl, ?_, ⟨_, rfl⟩, hW, hsame.mono (by decide) (by decide)⟩
                show QE Z p1 r h0 n0 _ s₁.heap _
                rw [e0]
                exact ⟨by rw [← hR]; simp [expF, hc3, hc17, hc31, hc45, hc51, hc57, hc63], N0, rfl⟩
              · have pre22 : Go p e below s₁ (mkF m 66 #[.val (.int p1)] []) s₁ (entryFrame m #[(.int p1)] 1) := fun t k => pre19 t (XS.icmpNo X0.here hx rfl (hb hby dE_63) rfl (feq hc63).1 k)
                have pre23 : Go p e below s₁ (mkF m 69 #[.val (.int p1)] [(.int (38 : Int32)), (.int p1)]) s₁ (entryFrame m #[(.int p1)] 1) := fun t k => pre22 t (by
                    show Steps p.tables e below (s₁.setTop (mkF m 66 #[.val (.int p1)] [])) t
                    refine XS.iloadN X0.here hx rfl (hb hby dE_66) rfl ?_
                    show Steps p.tables e below (s₁.setTop (mkF m 67 #[.val (.int p1)] [(.int p1)])) t
                    refine XS.bipush X0.here hx rfl (hb hby dE_67) ?_
                    exact k)
                by_cases hc69 : p1 = (38 : Int32)
                · have pre24 : Go p e below s₁ (mkF m 132 #[.val (.int p1)] []) s₁ (entryFrame m #[(.int p1)] 1) := fun t k => pre23 t (XS.icmpYes X0.here hx rfl (pc0 := 69) (pc' := 132) rfl (hb hby dE_69) rfl (teq hc69).1 (by decide) (by decide) k)
                  have pre25 : Go p e below s₁ (mkF m 137 #[.val (.int p1)] [(.int (1 : Int32))]) s₁ (entryFrame m #[(.int p1)] 1) := fun t k => pre24 t (by
                      show Steps p.tables e below (s₁.setTop (mkF m 132 #[.val (.int p1)] [])) t
                      refine XS.iconst X0.here hx rfl (hb hby dE_132) ?_
                      show Steps p.tables e below (s₁.setTop (mkF m 133 #[.val (.int p1)] [(.int (1 : Int32))])) t
                      refine XS.goto X0.here hx rfl (pc0 := 133) (pc' := 137) rfl (hb hby dE_133) (by decide) (by decide) ?_
                      exact k)
                  have hnr : Value.int (nar .boolean (1 : Int32)) = (.int (1 : Int32)) := by rfl
                  obtain ⟨fs, hr, hrun, hended, hW, hsame⟩ := X0.leave (v := some (.int (1 : Int32))) (fun h => by rw [Bd.returns] at h; cases h)
                  refine ⟨_, _, pre25 _ (retN X0 hx (t := .boolean) Bd.returns (by simp) (hb hby dE_137) (hnr ▸ hr)), hrun, hended, _, _, rfl, ?_, ⟨_, rfl⟩, hW, hsame.mono (by decide) (by decide)⟩
                  show QE Z p1 r h0 n0 _ s₁.heap _
                  rw [e0]
                  exact ⟨by rw [← hR]; simp [expF, hc3, hc17, hc31, hc45, hc51, hc57, hc63, hc69], N0, rfl⟩
                · have pre26 : Go p e below s₁ (mkF m 72 #[.val (.int p1)] []) s₁ (entryFrame m #[(.int p1)] 1) := fun t k => pre23 t (XS.icmpNo X0.here hx rfl (hb hby dE_69) rfl (feq hc69).1 k)
                  have pre27 : Go p e below s₁ (mkF m 75 #[.val (.int p1)] [(.int (39 : Int32)), (.int p1)]) s₁ (entryFrame m #[(.int p1)] 1) := fun t k => pre26 t (by
                      show Steps p.tables e below (s₁.setTop (mkF m 72 #[.val (.int p1)] [])) t
                      refine XS.iloadN X0.here hx rfl (hb hby dE_72) rfl ?_
                      show Steps p.tables e below (s₁.setTop (mkF m 73 #[.val (.int p1)] [(.int p1)])) t
                      refine XS.bipush X0.here hx rfl (hb hby dE_73) ?_
                      exact k)
                  by_cases hc75 : p1 = (39 : Int32)
                  · have pre28 : Go p e below s₁ (mkF m 132 #[.val (.int p1)] []) s₁ (entryFrame m #[(.int p1)] 1) := fun t k => pre27 t (XS.icmpYes X0.here hx rfl (pc0 := 75) (pc' := 132) rfl (hb hby dE_75) rfl (teq hc75).1 (by decide) (by decide) k)
                    have pre29 : Go p e below s₁ (mkF m 137 #[.val (.int p1)] [(.int (1 : Int32))]) s₁ (entryFrame m #[(.int p1)] 1) := fun t k => pre28 t (by
                        show Steps p.tables e below (s₁.setTop (mkF m 132 #[.val (.int p1)] [])) t
                        refine XS.iconst X0.here hx rfl (hb hby dE_132) ?_
                        show Steps p.tables e below (s₁.setTop (mkF m 133 #[.val (.int p1)] [(.int (1 : Int32))])) t
                        refine XS.goto X0.here hx rfl (pc0 := 133) (pc' := 137) rfl (hb hby dE_133) (by decide) (by decide) ?_
                        exact k)
                    have hnr : Value.int (nar .boolean (1 : Int32)) = (.int (1 : Int32)) := by rfl
                    obtain ⟨fs, hr, hrun, hended, hW, hsame⟩ := X0.leave (v := some (.int (1 : Int32))) (fun h => by rw [Bd.returns] at h; cases h)
                    refine ⟨_, _, pre29 _ (retN X0 hx (t := .boolean) Bd.returns (by simp) (hb hby dE_137) (hnr ▸ hr)), hrun, hended, _, _, rfl, ?_, ⟨_, rfl⟩, hW, hsame.mono (by decide) (by decide)⟩
                    show QE Z p1 r h0 n0 _ s₁.heap _
                    rw [e0]
                    exact ⟨by rw [← hR]; simp [expF, hc3, hc17, hc31, hc45, hc51, hc57, hc63, hc69, hc75], N0, rfl⟩
                  · have pre30 : Go p e below s₁ (mkF m 78 #[.val (.int p1)] []) s₁ (entryFrame m #[(.int p1)] 1) := fun t k => pre27 t (XS.icmpNo X0.here hx rfl (hb hby dE_75) rfl (feq hc75).1 k)
                    have pre31 : Go p e below s₁ (mkF m 81 #[.val (.int p1)] [(.int (42 : Int32)), (.int p1)]) s₁ (entryFrame m #[(.int p1)] 1) := fun t k => pre30 t (by
                        show Steps p.tables e below (s₁.setTop (mkF m 78 #[.val (.int p1)] [])) t
                        refine XS.iloadN X0.here hx rfl (hb hby dE_78) rfl ?_
                        show Steps p.tables e below (s₁.setTop (mkF m 79 #[.val (.int p1)] [(.int p1)])) t
                        refine XS.bipush X0.here hx rfl (hb hby dE_79) ?_
                        exact k)
                    by_cases hc81 : p1 = (42 : Int32)
                    · have pre32 : Go p e below s₁ (mkF m 132 #[.val (.int p1)] []) s₁ (entryFrame m #[(.int p1)] 1) := fun t k => pre31 t (XS.icmpYes X0.here hx rfl (pc0 := 81) (pc' := 132) rfl (hb hby dE_81) rfl (teq hc81).1 (by decide) (by decide) k)
                      have pre33 : Go p e below s₁ (mkF m 137 #[.val (.int p1)] [(.int (1 : Int32))]) s₁ (entryFrame m #[(.int p1)] 1) := fun t k => pre32 t (by
                          show Steps p.tables e below (s₁.setTop (mkF m 132 #[.val (.int p1)] [])) t
                          refine XS.iconst X0.here hx rfl (hb hby dE_132) ?_
                          show Steps p.tables e below (s₁.setTop (mkF m 133 #[.val (.int p1)] [(.int (1 : Int32))])) t
                          refine XS.goto X0.here hx rfl (pc0 := 133) (pc' := 137) rfl (hb hby dE_133) (by decide) (by decide) ?_
                          exact k)
                      have hnr : Value.int (nar .boolean (1 : Int32)) = (.int (1 : Int32)) := by rfl
                      obtain ⟨fs, hr, hrun, hended, hW, hsame⟩ := X0.leave (v := some (.int (1 : Int32))) (fun h => by rw [Bd.returns] at h; cases h)
                      refine ⟨_, _, pre33 _ (retN X0 hx (t := .boolean) Bd.returns (by simp) (hb hby dE_137) (hnr ▸ hr)), hrun, hended, _, _, rfl, ?_, ⟨_, rfl⟩, hW, hsame.mono (by decide) (by decide)⟩
                      show QE Z p1 r h0 n0 _ s₁.heap _
                      rw [e0]
                      exact ⟨by rw [← hR]; simp [expF, hc3, hc17, hc31, hc45, hc51, hc57, hc63, hc69, hc75, hc81], N0, rfl⟩
                    · have pre34 : Go p e below s₁ (mkF m 84 #[.val (.int p1)] []) s₁ (entryFrame m #[(.int p1)] 1) := fun t k => pre31 t (XS.icmpNo X0.here hx rfl (hb hby dE_81) rfl (feq hc81).1 k)
                      have pre35 : Go p e below s₁ (mkF m 87 #[.val (.int p1)] [(.int (43 : Int32)), (.int p1)]) s₁ (entryFrame m #[(.int p1)] 1) := fun t k => pre34 t (by
                          show Steps p.tables e below (s₁.setTop (mkF m 84 #[.val (.int p1)] [])) t
                          refine XS.iloadN X0.here hx rfl (hb hby dE_84) rfl ?_
                          show Steps p.tables e below (s₁.setTop (mkF m 85 #[.val (.int p1)] [(.int p1)])) t
                          refine XS.bipush X0.here hx rfl (hb hby dE_85) ?_
                          exact k)
                      by_cases hc87 : p1 = (43 : Int32)
                      · have pre36 : Go p e below s₁ (mkF m 132 #[.val (.int p1)] []) s₁ (entryFrame m #[(.int p1)] 1) := fun t k => pre35 t (XS.icmpYes X0.here hx rfl (pc0 := 87) (pc' := 132) rfl (hb hby dE_87) rfl (teq hc87).1 (by decide) (by decide) k)
                        have pre37 : Go p e below s₁ (mkF m 137 #[.val (.int p1)] [(.int (1 : Int32))]) s₁ (entryFrame m #[(.int p1)] 1) := fun t k => pre36 t (by
                            show Steps p.tables e below (s₁.setTop (mkF m 132 #[.val (.int p1)] [])) t
                            refine XS.iconst X0.here hx rfl (hb hby dE_132) ?_
                            show Steps p.tables e below (s₁.setTop (mkF m 133 #[.val (.int p1)] [(.int (1 : Int32))])) t
                            refine XS.goto X0.here hx rfl (pc0 := 133) (pc' := 137) rfl (hb hby dE_133) (by decide) (by decide) ?_
                            exact k)
                        have hnr : Value.int (nar .boolean (1 : Int32)) = (.int (1 : Int32)) := by rfl
                        obtain ⟨fs, hr, hrun, hended, hW, hsame⟩ := X0.leave (v := some (.int (1 : Int32))) (fun h => by rw [Bd.returns] at h; cases h)
                        refine ⟨_, _, pre37 _ (retN X0 hx (t := .boolean) Bd.returns (by simp) (hb hby dE_137) (hnr ▸ hr)), hrun, hended, _, _, rfl, ?_, ⟨_, rfl⟩, hW, hsame.mono (by decide) (by decide)⟩
                        show QE Z p1 r h0 n0 _ s₁.heap _
                        rw [e0]
                        exact ⟨by rw [← hR]; simp [expF, hc3, hc17, hc31, hc45, hc51, hc57, hc63, hc69, hc75, hc81, hc87], N0, rfl⟩
                      · have pre38 : Go p e below s₁ (mkF m 90 #[.val (.int p1)] []) s₁ (entryFrame m #[(.int p1)] 1) := fun t k => pre35 t (XS.icmpNo X0.here hx rfl (hb hby dE_87) rfl (feq hc87).1 k)
                        have pre39 : Go p e below s₁ (mkF m 93 #[.val (.int p1)] [(.int (45 : Int32)), (.int p1)]) s₁ (entryFrame m #[(.int p1)] 1) := fun t k => pre38 t (by
                            show Steps p.tables e below (s₁.setTop (mkF m 90 #[.val (.int p1)] [])) t
                            refine XS.iloadN X0.here hx rfl (hb hby dE_90) rfl ?_
                            show Steps p.tables e below (s₁.setTop (mkF m 91 #[.val (.int p1)] [(.int p1)])) t
                            refine XS.bipush X0.here hx rfl (hb hby dE_91) ?_
                            exact k)
                        by_cases hc93 : p1 = (45 : Int32)
                        · have pre40 : Go p e below s₁ (mkF m 132 #[.val (.int p1)] []) s₁ (entryFrame m #[(.int p1)] 1) := fun t k => pre39 t (XS.icmpYes X0.here hx rfl (pc0 := 93) (pc' := 132) rfl (hb hby dE_93) rfl (teq hc93).1 (by decide) (by decide) k)
                          have pre41 : Go p e below s₁ (mkF m 137 #[.val (.int p1)] [(.int (1 : Int32))]) s₁ (entryFrame m #[(.int p1)] 1) := fun t k => pre40 t (by
                              show Steps p.tables e below (s₁.setTop (mkF m 132 #[.val (.int p1)] [])) t
                              refine XS.iconst X0.here hx rfl (hb hby dE_132) ?_
                              show Steps p.tables e below (s₁.setTop (mkF m 133 #[.val (.int p1)] [(.int (1 : Int32))])) t
                              refine XS.goto X0.here hx rfl (pc0 := 133) (pc' := 137) rfl (hb hby dE_133) (by decide) (by decide) ?_
                              exact k)
                          have hnr : Value.int (nar .boolean (1 : Int32)) = (.int (1 : Int32)) := by rfl
                          obtain ⟨fs, hr, hrun, hended, hW, hsame⟩ := X0.leave (v := some (.int (1 : Int32))) (fun h => by rw [Bd.returns] at h; cases h)
                          refine ⟨_, _, pre41 _ (retN X0 hx (t := .boolean) Bd.returns (by simp) (hb hby dE_137) (hnr ▸ hr)), hrun, hended, _, _, rfl, ?_, ⟨_, rfl⟩, hW, hsame.mono (by decide) (by decide)⟩
                          show QE Z p1 r h0 n0 _ s₁.heap _
                          rw [e0]
                          exact ⟨by rw [← hR]; simp [expF, hc3, hc17, hc31, hc45, hc51, hc57, hc63, hc69, hc75, hc81, hc87, hc93], N0, rfl⟩
                        · have pre42 : Go p e below s₁ (mkF m 96 #[.val (.int p1)] []) s₁ (entryFrame m #[(.int p1)] 1) := fun t k => pre39 t (XS.icmpNo X0.here hx rfl (hb hby dE_93) rfl (feq hc93).1 k)
                          have pre43 : Go p e below s₁ (mkF m 99 #[.val (.int p1)] [(.int (46 : Int32)), (.int p1)]) s₁ (entryFrame m #[(.int p1)] 1) := fun t k => pre42 t (by
                              show Steps p.tables e below (s₁.setTop (mkF m 96 #[.val (.int p1)] [])) t
                              refine XS.iloadN X0.here hx rfl (hb hby dE_96) rfl ?_
                              show Steps p.tables e below (s₁.setTop (mkF m 97 #[.val (.int p1)] [(.int p1)])) t
                              refine XS.bipush X0.here hx rfl (hb hby dE_97) ?_
                              exact k)
                          by_cases hc99 : p1 = (46 : Int32)
                          · have pre44 : Go p e below s₁ (mkF m 132 #[.val (.int p1)] []) s₁ (entryFrame m #[(.int p1)] 1) := fun t k => pre43 t (XS.icmpYes X0.here hx rfl (pc0 := 99) (pc' := 132) rfl (hb hby dE_99) rfl (teq hc99).1 (by decide) (by decide) k)
                            have pre45 : Go p e below s₁ (mkF m 137 #[.val (.int p1)] [(.int (1 : Int32))]) s₁ (entryFrame m #[(.int p1)] 1) := fun t k => pre44 t (by
                                show Steps p.tables e below (s₁.setTop (mkF m 132 #[.val (.int p1)] [])) t
                                refine XS.iconst X0.here hx rfl (hb hby dE_132) ?_
                                show Steps p.tables e below (s₁.setTop (mkF m 133 #[.val (.int p1)] [(.int (1 : Int32))])) t
                                refine XS.goto X0.here hx rfl (pc0 := 133) (pc' := 137) rfl (hb hby dE_133) (by decide) (by decide) ?_
                                exact k)
                            have hnr : Value.int (nar .boolean (1 : Int32)) = (.int (1 : Int32)) := by rfl
                            obtain ⟨fs, hr, hrun, hended, hW, hsame⟩ := X0.leave (v := some (.int (1 : Int32))) (fun h => by rw [Bd.returns] at h; cases h)
                            refine ⟨_, _, pre45 _ (retN X0 hx (t := .boolean) Bd.returns (by simp) (hb hby dE_137) (hnr ▸ hr)), hrun, hended, _, _, rfl, ?_, ⟨_, rfl⟩, hW, hsame.mono (by decide) (by decide)⟩
                            show QE Z p1 r h0 n0 _ s₁.heap _
                            rw [e0]
                            exact ⟨by rw [← hR]; simp [expF, hc3, hc17, hc31, hc45, hc51, hc57, hc63, hc69, hc75, hc81, hc87, hc93, hc99], N0, rfl⟩
                          · have pre46 : Go p e below s₁ (mkF m 102 #[.val (.int p1)] []) s₁ (entryFrame m #[(.int p1)] 1) := fun t k => pre43 t (XS.icmpNo X0.here hx rfl (hb hby dE_99) rfl (feq hc99).1 k)
                            have pre47 : Go p e below s₁ (mkF m 105 #[.val (.int p1)] [(.int (94 : Int32)), (.int p1)]) s₁ (entryFrame m #[(.int p1)] 1) := fun t k => pre46 t (by
                                show Steps p.tables e below (s₁.setTop (mkF m 102 #[.val (.int p1)] [])) t
                                refine XS.iloadN X0.here hx rfl (hb hby dE_102) rfl ?_
                                show Steps p.tables e below (s₁.setTop (mkF m 103 #[.val (.int p1)] [(.int p1)])) t
                                refine XS.bipush X0.here hx rfl (hb hby dE_103) ?_
                                exact k)
                            by_cases hc105 : p1 = (94 : Int32)
                            · exfalso
                              simp only [Int32.lt_iff_toInt_lt, ← Int32.toInt_inj, own_l0, own_l33, own_l35, own_l36, own_l37, own_l38, own_l39, own_l42, own_l43, own_l45, own_l46, own_l48, own_l57, own_l65, own_l90, own_l94, own_l95, own_l96, own_l97, own_l122, own_l124, own_l126, own_l128] at hc3 hc17 hc31 hc45 hc51 hc57 hc63 hc69 hc75 hc81 hc87 hc93 hc99 hc105
                              omega
                            · have pre48 : Go p e below s₁ (mkF m 108 #[.val (.int p1)] []) s₁ (entryFrame m #[(.int p1)] 1) := fun t k => pre47 t (XS.icmpNo X0.here hx rfl (hb hby dE_105) rfl (feq hc105).1 k)
                              have pre49 : Go p e below s₁ (mkF m 111 #[.val (.int p1)] [(.int (95 : Int32)), (.int p1)]) s₁ (entryFrame m #[(.int p1)] 1) := fun t k => pre48 t (by
                                  show Steps p.tables e below (s₁.setTop (mkF m 108 #[.val (.int p1)] [])) t
                                  refine XS.iloadN X0.here hx rfl (hb hby dE_108) rfl ?_
                                  show Steps p.tables e below (s₁.setTop (mkF m 109 #[.val (.int p1)] [(.int p1)])) t
                                  refine XS.bipush X0.here hx rfl (hb hby dE_109) ?_
                                  exact k)
                              by_cases hc111 : p1 = (95 : Int32)
                              · exfalso
                                simp only [Int32.lt_iff_toInt_lt, ← Int32.toInt_inj, own_l0, own_l33, own_l35, own_l36, own_l37, own_l38, own_l39, own_l42, own_l43, own_l45, own_l46, own_l48, own_l57, own_l65, own_l90, own_l94, own_l95, own_l96, own_l97, own_l122, own_l124, own_l126, own_l128] at hc3 hc17 hc31 hc45 hc51 hc57 hc63 hc69 hc75 hc81 hc87 hc93 hc99 hc105 hc111
                                omega
                              · have pre50 : Go p e below s₁ (mkF m 114 #[.val (.int p1)] []) s₁ (entryFrame m #[(.int p1)] 1) := fun t k => pre49 t (XS.icmpNo X0.here hx rfl (hb hby dE_111) rfl (feq hc111).1 k)
                                have pre51 : Go p e below s₁ (mkF m 117 #[.val (.int p1)] [(.int (96 : Int32)), (.int p1)]) s₁ (entryFrame m #[(.int p1)] 1) := fun t k => pre50 t (by
                                    show Steps p.tables e below (s₁.setTop (mkF m 114 #[.val (.int p1)] [])) t
                                    refine XS.iloadN X0.here hx rfl (hb hby dE_114) rfl ?_
                                    show Steps p.tables e below (s₁.setTop (mkF m 115 #[.val (.int p1)] [(.int p1)])) t
                                    refine XS.bipush X0.here hx rfl (hb hby dE_115) ?_
                                    exact k)
                                by_cases hc117 : p1 = (96 : Int32)
                                · exfalso
                                  simp only [Int32.lt_iff_toInt_lt, ← Int32.toInt_inj, own_l0, own_l33, own_l35, own_l36, own_l37, own_l38, own_l39, own_l42, own_l43, own_l45, own_l46, own_l48, own_l57, own_l65, own_l90, own_l94, own_l95, own_l96, own_l97, own_l122, own_l124, own_l126, own_l128] at hc3 hc17 hc31 hc45 hc51 hc57 hc63 hc69 hc75 hc81 hc87 hc93 hc99 hc105 hc111 hc117
                                  omega
                                · have pre52 : Go p e below s₁ (mkF m 120 #[.val (.int p1)] []) s₁ (entryFrame m #[(.int p1)] 1) := fun t k => pre51 t (XS.icmpNo X0.here hx rfl (hb hby dE_117) rfl (feq hc117).1 k)
                                  have pre53 : Go p e below s₁ (mkF m 123 #[.val (.int p1)] [(.int (124 : Int32)), (.int p1)]) s₁ (entryFrame m #[(.int p1)] 1) := fun t k => pre52 t (by
                                      show Steps p.tables e below (s₁.setTop (mkF m 120 #[.val (.int p1)] [])) t
                                      refine XS.iloadN X0.here hx rfl (hb hby dE_120) rfl ?_
                                      show Steps p.tables e below (s₁.setTop (mkF m 121 #[.val (.int p1)] [(.int p1)])) t
                                      refine XS.bipush X0.here hx rfl (hb hby dE_121) ?_
                                      exact k)
                                  by_cases hc123 : p1 = (124 : Int32)
                                  · exfalso
                                    simp only [Int32.lt_iff_toInt_lt, ← Int32.toInt_inj, own_l0, own_l33, own_l35, own_l36, own_l37, own_l38, own_l39, own_l42, own_l43, own_l45, own_l46, own_l48, own_l57, own_l65, own_l90, own_l94, own_l95, own_l96, own_l97, own_l122, own_l124, own_l126, own_l128] at hc3 hc17 hc31 hc45 hc51 hc57 hc63 hc69 hc75 hc81 hc87 hc93 hc99 hc105 hc111 hc117 hc123
                                    omega
                                  · have pre54 : Go p e below s₁ (mkF m 126 #[.val (.int p1)] []) s₁ (entryFrame m #[(.int p1)] 1) := fun t k => pre53 t (XS.icmpNo X0.here hx rfl (hb hby dE_123) rfl (feq hc123).1 k)
                                    have pre55 : Go p e below s₁ (mkF m 129 #[.val (.int p1)] [(.int (126 : Int32)), (.int p1)]) s₁ (entryFrame m #[(.int p1)] 1) := fun t k => pre54 t (by
                                        show Steps p.tables e below (s₁.setTop (mkF m 126 #[.val (.int p1)] [])) t
                                        refine XS.iloadN X0.here hx rfl (hb hby dE_126) rfl ?_
                                        show Steps p.tables e below (s₁.setTop (mkF m 127 #[.val (.int p1)] [(.int p1)])) t
                                        refine XS.bipush X0.here hx rfl (hb hby dE_127) ?_
                                        exact k)
                                    by_cases hc129 : p1 = (126 : Int32)
                                    · exfalso
                                      simp only [Int32.lt_iff_toInt_lt, ← Int32.toInt_inj, own_l0, own_l33, own_l35, own_l36, own_l37, own_l38, own_l39, own_l42, own_l43, own_l45, own_l46, own_l48, own_l57, own_l65, own_l90, own_l94, own_l95, own_l96, own_l97, own_l122, own_l124, own_l126, own_l128] at hc3 hc17 hc31 hc45 hc51 hc57 hc63 hc69 hc75 hc81 hc87 hc93 hc99 hc105 hc111 hc117 hc123 hc129
                                      omega
                                    · have pre56 : Go p e below s₁ (mkF m 136 #[.val (.int p1)] []) s₁ (entryFrame m #[(.int p1)] 1) := fun t k => pre55 t (XS.icmpYes X0.here hx rfl (pc0 := 129) (pc' := 136) rfl (hb hby dE_129) rfl (feq hc129).2 (by decide) (by decide) k)
                                      have pre57 : Go p e below s₁ (mkF m 137 #[.val (.int p1)] [(.int (0 : Int32))]) s₁ (entryFrame m #[(.int p1)] 1) := fun t k => pre56 t (by
                                          show Steps p.tables e below (s₁.setTop (mkF m 136 #[.val (.int p1)] [])) t
                                          refine XS.iconst X0.here hx rfl (hb hby dE_136) ?_
                                          exact k)
                                      have hnr : Value.int (nar .boolean (0 : Int32)) = (.int (0 : Int32)) := by rfl
                                      obtain ⟨fs, hr, hrun, hended, hW, hsame⟩ := X0.leave (v := some (.int (0 : Int32))) (fun h => by rw [Bd.returns] at h; cases h)
                                      refine ⟨_, _, pre57 _ (retN X0 hx (t := .boolean) Bd.returns (by simp) (hb hby dE_137) (hnr ▸ hr)), hrun, hended, _, _, rfl, ?_, ⟨_, rfl⟩, hW, hsame.mono (by decide) (by decide)⟩
                                      show QE Z p1 r h0 n0 _ s₁.heap _
                                      rw [e0]
                                      exact ⟨by rw [← hR]; simp [expF, hc3, hc17, hc31, hc45, hc51, hc57, hc63, hc69, hc75, hc81, hc87, hc93, hc99, hc105, hc111, hc117, hc123, hc129], N0, rfl⟩
      · exfalso
        simp only [Int32.lt_iff_toInt_lt, ← Int32.toInt_inj, own_l0, own_l33, own_l35, own_l36, own_l37, own_l38, own_l39, own_l42, own_l43, own_l45, own_l46, own_l48, own_l57, own_l65, own_l90, own_l94, own_l95, own_l96, own_l97, own_l122, own_l124, own_l126, own_l128] at hc3 hc17 hc31
        omega
    · exfalso
      simp only [Int32.lt_iff_toInt_lt, ← Int32.toInt_inj, own_l0, own_l33, own_l35, own_l36, own_l37, own_l38, own_l39, own_l42, own_l43, own_l45, own_l46, own_l48, own_l57, own_l65, own_l90, own_l94, own_l95, own_l96, own_l97, own_l122, own_l124, own_l126, own_l128] at hc3 hc17
      omega
  · have pre58 : Go p e below s₁ (mkF m 6 #[.val (.int p1)] []) s₁ (entryFrame m #[(.int p1)] 1) := fun t k => pre1 t (XS.icmpNo X0.here hx rfl (hb hby dE_3) rfl (flt hc3).1 k)
    have pre59 : Go p e below s₁ (mkF m 9 #[.val (.int p1)] [(.int (57 : Int32)), (.int p1)]) s₁ (entryFrame m #[(.int p1)] 1) := fun t k => pre58 t (by
        show Steps p.tables e below (s₁.setTop (mkF m 6 #[.val (.int p1)] [])) t
        refine XS.iloadN X0.here hx rfl (hb hby dE_6) rfl ?_
        show Steps p.tables e below (s₁.setTop (mkF m 7 #[.val (.int p1)] [(.int p1)])) t
        refine XS.bipush X0.here hx rfl (hb hby dE_7) ?_
        exact k)
    by_cases hc9 : (57 : Int32) < p1
    · have pre60 : Go p e below s₁ (mkF m 14 #[.val (.int p1)] []) s₁ (entryFrame m #[(.int p1)] 1) := fun t k => pre59 t (XS.icmpYes X0.here hx rfl (pc0 := 9) (pc' := 14) rfl (hb hby dE_9) rfl (tlt hc9).2.2.1 (by decide) (by decide) k)
      have pre61 : Go p e below s₁ (mkF m 17 #[.val (.int p1)] [(.int (97 : Int32)), (.int p1)]) s₁ (entryFrame m #[(.int p1)] 1) := fun t k => pre60 t (by
          show Steps p.tables e below (s₁.setTop (mkF m 14 #[.val (.int p1)] [])) t
          refine XS.iloadN X0.here hx rfl (hb hby dE_14) rfl ?_
          show Steps p.tables e below (s₁.setTop (mkF m 15 #[.val (.int p1)] [(.int p1)])) t
          refine XS.bipush X0.here hx rfl (hb hby dE_15) ?_
          exact k)
      by_cases hc17 : p1 < (97 : Int32)
      · have pre62 : Go p e below s₁ (mkF m 28 #[.val (.int p1)] []) s₁ (entryFrame m #[(.int p1)] 1) := fun t k => pre61 t (XS.icmpYes X0.here hx rfl (pc0 := 17) (pc' := 28) rfl (hb hby dE_17) rfl (tlt hc17).1 (by decide) (by decide) k)
        have pre63 : Go p e below s₁ (mkF m 31 #[.val (.int p1)] [(.int (65 : Int32)), (.int p1)]) s₁ (entryFrame m #[(.int p1)] 1) := fun t k => pre62 t (by
            show Steps p.tables e below (s₁.setTop (mkF m 28 #[.val (.int p1)] [])) t
            refine XS.iloadN X0.here hx rfl (hb hby dE_28) rfl ?_
            show Steps p.tables e below (s₁.setTop (mkF m 29 #[.val (.int p1)] [(.int p1)])) t
            refine XS.bipush X0.here hx rfl (hb hby dE_29) ?_
            exact k)
        by_cases hc31 : p1 < (65 : Int32)
        · have pre64 : Go p e below s₁ (mkF m 42 #[.val (.int p1)] []) s₁ (entryFrame m #[(.int p1)] 1) := fun t k => pre63 t (XS.icmpYes X0.here hx rfl (pc0 := 31) (pc' := 42) rfl (hb hby dE_31) rfl (tlt hc31).1 (by decide) (by decide) k)
          have pre65 : Go p e below s₁ (mkF m 45 #[.val (.int p1)] [(.int (33 : Int32)), (.int p1)]) s₁ (entryFrame m #[(.int p1)] 1) := fun t k => pre64 t (by
              show Steps p.tables e below (s₁.setTop (mkF m 42 #[.val (.int p1)] [])) t
              refine XS.iloadN X0.here hx rfl (hb hby dE_42) rfl ?_
              show Steps p.tables e below (s₁.setTop (mkF m 43 #[.val (.int p1)] [(.int p1)])) t
              refine XS.bipush X0.here hx rfl (hb hby dE_43) ?_
              exact k)
          by_cases hc45 : p1 = (33 : Int32)
          · exfalso
            simp only [Int32.lt_iff_toInt_lt, ← Int32.toInt_inj, own_l0, own_l33, own_l35, own_l36, own_l37, own_l38, own_l39, own_l42, own_l43, own_l45, own_l46, own_l48, own_l57, own_l65, own_l90, own_l94, own_l95, own_l96, own_l97, own_l122, own_l124, own_l126, own_l128] at hc3 hc9 hc17 hc31 hc45
            omega
          · have pre66 : Go p e below s₁ (mkF m 48 #[.val (.int p1)] []) s₁ (entryFrame m #[(.int p1)] 1) := fun t k => pre65 t (XS.icmpNo X0.here hx rfl (hb hby dE_45) rfl (feq hc45).1 k)
            have pre67 : Go p e below s₁ (mkF m 51 #[.val (.int p1)] [(.int (35 : Int32)), (.int p1)]) s₁ (entryFrame m #[(.int p1)] 1) := fun t k => pre66 t (by
                show Steps p.tables e below (s₁.setTop (mkF m 48 #[.val (.int p1)] [])) t
                refine XS.iloadN X0.here hx rfl (hb hby dE_48) rfl ?_
                show Steps p.tables e below (s₁.setTop (mkF m 49 #[.val (.int p1)] [(.int p1)])) t
                refine XS.bipush X0.here hx rfl (hb hby dE_49) ?_
                exact k)
            by_cases hc51 : p1 = (35 : Int32)
            · exfalso
              simp only [Int32.lt_iff_toInt_lt, ← Int32.toInt_inj, own_l0, own_l33, own_l35, own_l36, own_l37, own_l38, own_l39, own_l42, own_l43, own_l45, own_l46, own_l48, own_l57, own_l65, own_l90, own_l94, own_l95, own_l96, own_l97, own_l122, own_l124, own_l126, own_l128] at hc3 hc9 hc17 hc31 hc45 hc51
              omega
            · have pre68 : Go p e below s₁ (mkF m 54 #[.val (.int p1)] []) s₁ (entryFrame m #[(.int p1)] 1) := fun t k => pre67 t (XS.icmpNo X0.here hx rfl (hb hby dE_51) rfl (feq hc51).1 k)
              have pre69 : Go p e below s₁ (mkF m 57 #[.val (.int p1)] [(.int (36 : Int32)), (.int p1)]) s₁ (entryFrame m #[(.int p1)] 1) := fun t k => pre68 t (by
                  show Steps p.tables e below (s₁.setTop (mkF m 54 #[.val (.int p1)] [])) t
                  refine XS.iloadN X0.here hx rfl (hb hby dE_54) rfl ?_
                  show Steps p.tables e below (s₁.setTop (mkF m 55 #[.val (.int p1)] [(.int p1)])) t
                  refine XS.bipush X0.here hx rfl (hb hby dE_55) ?_
                  exact k)
              by_cases hc57 : p1 = (36 : Int32)
              · exfalso
                simp only [Int32.lt_iff_toInt_lt, ← Int32.toInt_inj, own_l0, own_l33, own_l35, own_l36, own_l37, own_l38, own_l39, own_l42, own_l43, own_l45, own_l46, own_l48, own_l57, own_l65, own_l90, own_l94, own_l95, own_l96, own_l97, own_l122, own_l124, own_l126, own_l128] at hc3 hc9 hc17 hc31 hc45 hc51 hc57
                omega
              · have pre70 : Go p e below s₁ (mkF m 60 #[.val (.int p1)] []) s₁ (entryFrame m #[(.int p1)] 1) := fun t k => pre69 t (XS.icmpNo X0.here hx rfl (hb hby dE_57) rfl (feq hc57).1 k)
                have pre71 : Go p e below s₁ (mkF m 63 #[.val (.int p1)] [(.int (37 : Int32)), (.int p1)]) s₁ (entryFrame m #[(.int p1)] 1) := fun t k => pre70 t (by
                    show Steps p.tables e below (s₁.setTop (mkF m 60 #[.val (.int p1)] [])) t
                    refine XS.iloadN X0.here hx rfl (hb hby dE_60) rfl ?_
                    show Steps p.tables e below (s₁.setTop (mkF m 61 #[.val (.int p1)] [(.int p1)])) t
                    refine XS.bipush X0.here hx rfl (hb hby dE_61) ?_
                    exact k)
                by_cases hc63 : p1 = (37 : Int32)
                · exfalso
                  simp only [Int32.lt_iff_toInt_lt, ← Int32.toInt_inj, own_l0, own_l33, own_l35, own_l36, own_l37, own_l38, own_l39, own_l42, own_l43, own_l45, own_l46, own_l48, own_l57, own_l65, own_l90, own_l94, own_l95, own_l96, own_l97, own_l122, own_l124, own_l126, own_l128] at hc3 hc9 hc17 hc31 hc45 hc51 hc57 hc63
                  omega
                · have pre72 : Go p e below s₁ (mkF m 66 #[.val (.int p1)] []) s₁ (entryFrame m #[(.int p1)] 1) := fun t k => pre71 t (XS.icmpNo X0.here hx rfl (hb hby dE_63) rfl (feq hc63).1 k)
                  have pre73 : Go p e below s₁ (mkF m 69 #[.val (.int p1)] [(.int (38 : Int32)), (.int p1)]) s₁ (entryFrame m #[(.int p1)] 1) := fun t k => pre72 t (by
                      show Steps p.tables e below (s₁.setTop (mkF m 66 #[.val (.int p1)] [])) t
                      refine XS.iloadN X0.here hx rfl (hb hby dE_66) rfl ?_
                      show Steps p.tables e below (s₁.setTop (mkF m 67 #[.val (.int p1)] [(.int p1)])) t
                      refine XS.bipush X0.here hx rfl (hb hby dE_67) ?_
                      exact k)
                  by_cases hc69 : p1 = (38 : Int32)
                  · exfalso
                    simp only [Int32.lt_iff_toInt_lt, ← Int32.toInt_inj, own_l0, own_l33, own_l35, own_l36, own_l37, own_l38, own_l39, own_l42, own_l43, own_l45, own_l46, own_l48, own_l57, own_l65, own_l90, own_l94, own_l95, own_l96, own_l97, own_l122, own_l124, own_l126, own_l128] at hc3 hc9 hc17 hc31 hc45 hc51 hc57 hc63 hc69
                    omega
                  · have pre74 : Go p e below s₁ (mkF m 72 #[.val (.int p1)] []) s₁ (entryFrame m #[(.int p1)] 1) := fun t k => pre73 t (XS.icmpNo X0.here hx rfl (hb hby dE_69) rfl (feq hc69).1 k)
                    have pre75 : Go p e below s₁ (mkF m 75 #[.val (.int p1)] [(.int (39 : Int32)), (.int p1)]) s₁ (entryFrame m #[(.int p1)] 1) := fun t k => pre74 t (by
                        show Steps p.tables e below (s₁.setTop (mkF m 72 #[.val (.int p1)] [])) t
                        refine XS.iloadN X0.here hx rfl (hb hby dE_72) rfl ?_
                        show Steps p.tables e below (s₁.setTop (mkF m 73 #[.val (.int p1)] [(.int p1)])) t
                        refine XS.bipush X0.here hx rfl (hb hby dE_73) ?_
                        exact k)
                    by_cases hc75 : p1 = (39 : Int32)
                    · exfalso
                      simp only [Int32.lt_iff_toInt_lt, ← Int32.toInt_inj, own_l0, own_l33, own_l35, own_l36, own_l37, own_l38, own_l39, own_l42, own_l43, own_l45, own_l46, own_l48, own_l57, own_l65, own_l90, own_l94, own_l95, own_l96, own_l97, own_l122, own_l124, own_l126, own_l128] at hc3 hc9 hc17 hc31 hc45 hc51 hc57 hc63 hc69 hc75
                      omega
                    · have pre76 : Go p e below s₁ (mkF m 78 #[.val (.int p1)] []) s₁ (entryFrame m #[(.int p1)] 1) := fun t k => pre75 t (XS.icmpNo X0.here hx rfl (hb hby dE_75) rfl (feq hc75).1 k)
                      have pre77 : Go p e below s₁ (mkF m 81 #[.val (.int p1)] [(.int (42 : Int32)), (.int p1)]) s₁ (entryFrame m #[(.int p1)] 1) := fun t k => pre76 t (by
                          show Steps p.tables e below (s₁.setTop (mkF m 78 #[.val (.int p1)] [])) t
                          refine XS.iloadN X0.here hx rfl (hb hby dE_78) rfl ?_
                          show Steps p.tables e below (s₁.setTop (mkF m 79 #[.val (.int p1)] [(.int p1)])) t
                          refine XS.bipush X0.here hx rfl (hb hby dE_79) ?_
                          exact k)
                      by_cases hc81 : p1 = (42 : Int32)
                      · exfalso
                        simp only [Int32.lt_iff_toInt_lt, ← Int32.toInt_inj, own_l0, own_l33, own_l35, own_l36, own_l37, own_l38, own_l39, own_l42, own_l43, own_l45, own_l46, own_l48, own_l57, own_l65, own_l90, own_l94, own_l95, own_l96, own_l97, own_l122, own_l124, own_l126, own_l128] at hc3 hc9 hc17 hc31 hc45 hc51 hc57 hc63 hc69 hc75 hc81
                        omega
                      · have pre78 : Go p e below s₁ (mkF m 84 #[.val (.int p1)] []) s₁ (entryFrame m #[(.int p1)] 1) := fun t k => pre77 t (XS.icmpNo X0.here hx rfl (hb hby dE_81) rfl (feq hc81).1 k)
                        have pre79 : Go p e below s₁ (mkF m 87 #[.val (.int p1)] [(.int (43 : Int32)), (.int p1)]) s₁ (entryFrame m #[(.int p1)] 1) := fun t k => pre78 t (by
                            show Steps p.tables e below (s₁.setTop (mkF m 84 #[.val (.int p1)] [])) t
                            refine XS.iloadN X0.here hx rfl (hb hby dE_84) rfl ?_
                            show Steps p.tables e below (s₁.setTop (mkF m 85 #[.val (.int p1)] [(.int p1)])) t
                            refine XS.bipush X0.here hx rfl (hb hby dE_85) ?_
                            exact k)
                        by_cases hc87 : p1 = (43 : Int32)
                        · exfalso
                          simp only [Int32.lt_iff_toInt_lt, ← Int32.toInt_inj, own_l0, own_l33, own_l35, own_l36, own_l37, own_l38, own_l39, own_l42, own_l43, own_l45, own_l46, own_l48, own_l57, own_l65, own_l90, own_l94, own_l95, own_l96, own_l97, own_l122, own_l124, own_l126, own_l128] at hc3 hc9 hc17 hc31 hc45 hc51 hc57 hc63 hc69 hc75 hc81 hc87
                          omega
                        · have pre80 : Go p e below s₁ (mkF m 90 #[.val (.int p1)] []) s₁ (entryFrame m #[(.int p1)] 1) := fun t k => pre79 t (XS.icmpNo X0.here hx rfl (hb hby dE_87) rfl (feq hc87).1 k)
                          have pre81 : Go p e below s₁ (mkF m 93 #[.val (.int p1)] [(.int (45 : Int32)), (.int p1)]) s₁ (entryFrame m #[(.int p1)] 1) := fun t k => pre80 t (by
                              show Steps p.tables e below (s₁.setTop (mkF m 90 #[.val (.int p1)] [])) t
                              refine XS.iloadN X0.here hx rfl (hb hby dE_90) rfl ?_
                              show Steps p.tables e below (s₁.setTop (mkF m 91 #[.val (.int p1)] [(.int p1)])) t
                              refine XS.bipush X0.here hx rfl (hb hby dE_91) ?_
                              exact k)
                          by_cases hc93 : p1 = (45 : Int32)
                          · exfalso
                            simp only [Int32.lt_iff_toInt_lt, ← Int32.toInt_inj, own_l0, own_l33, own_l35, own_l36, own_l37, own_l38, own_l39, own_l42, own_l43, own_l45, own_l46, own_l48, own_l57, own_l65, own_l90, own_l94, own_l95, own_l96, own_l97, own_l122, own_l124, own_l126, own_l128] at hc3 hc9 hc17 hc31 hc45 hc51 hc57 hc63 hc69 hc75 hc81 hc87 hc93
                            omega
                          · have pre82 : Go p e below s₁ (mkF m 96 #[.val (.int p1)] []) s₁ (entryFrame m #[(.int p1)] 1) := fun t k => pre81 t (XS.icmpNo X0.here hx rfl (hb hby dE_93) rfl (feq hc93).1 k)
                            have pre83 : Go p e below s₁ (mkF m 99 #[.val (.int p1)] [(.int (46 : Int32)), (.int p1)]) s₁ (entryFrame m #[(.int p1)] 1) := fun t k => pre82 t (by
                                show Steps p.tables e below (s₁.setTop (mkF m 96 #[.val (.int p1)] [])) t
                                refine XS.iloadN X0.here hx rfl (hb hby dE_96) rfl ?_
                                show Steps p.tables e below (s₁.setTop (mkF m 97 #[.val (.int p1)] [(.int p1)])) t
                                refine XS.bipush X0.here hx rfl (hb hby dE_97) ?_
                                exact k)
                            by_cases hc99 : p1 = (46 : Int32)
                            · exfalso
                              simp only [Int32.lt_iff_toInt_lt, ← Int32.toInt_inj, own_l0, own_l33, own_l35, own_l36, own_l37, own_l38, own_l39, own_l42, own_l43, own_l45, own_l46, own_l48, own_l57, own_l65, own_l90, own_l94, own_l95, own_l96, own_l97, own_l122, own_l124, own_l126, own_l128] at hc3 hc9 hc17 hc31 hc45 hc51 hc57 hc63 hc69 hc75 hc81 hc87 hc93 hc99
                              omega
                            · have pre84 : Go p e below s₁ (mkF m 102 #[.val (.int p1)] []) s₁ (entryFrame m #[(.int p1)] 1) := fun t k => pre83 t (XS.icmpNo X0.here hx rfl (hb hby dE_99) rfl (feq hc99).1 k)
                              have pre85 : Go p e below s₁ (mkF m 105 #[.val (.int p1)] [(.int (94 : Int32)), (.int p1)]) s₁ (entryFrame m #[(.int p1)] 1) := fun t k => pre84 t (by
                                  show Steps p.tables e below (s₁.setTop (mkF m 102 #[.val (.int p1)] [])) t
                                  refine XS.iloadN X0.here hx rfl (hb hby dE_102) rfl ?_
                                  show Steps p.tables e below (s₁.setTop (mkF m 103 #[.val (.int p1)] [(.int p1)])) t
                                  refine XS.bipush X0.here hx rfl (hb hby dE_103) ?_
                                  exact k)
                              by_cases hc105 : p1 = (94 : Int32)
                              · exfalso
                                simp only [Int32.lt_iff_toInt_lt, ← Int32.toInt_inj, own_l0, own_l33, own_l35, own_l36, own_l37, own_l38, own_l39, own_l42, own_l43, own_l45, own_l46, own_l48, own_l57, own_l65, own_l90, own_l94, own_l95, own_l96, own_l97, own_l122, own_l124, own_l126, own_l128] at hc3 hc9 hc17 hc31 hc45 hc51 hc57 hc63 hc69 hc75 hc81 hc87 hc93 hc99 hc105
                                omega
                              · have pre86 : Go p e below s₁ (mkF m 108 #[.val (.int p1)] []) s₁ (entryFrame m #[(.int p1)] 1) := fun t k => pre85 t (XS.icmpNo X0.here hx rfl (hb hby dE_105) rfl (feq hc105).1 k)
                                have pre87 : Go p e below s₁ (mkF m 111 #[.val (.int p1)] [(.int (95 : Int32)), (.int p1)]) s₁ (entryFrame m #[(.int p1)] 1) := fun t k => pre86 t (by
                                    show Steps p.tables e below (s₁.setTop (mkF m 108 #[.val (.int p1)] [])) t
                                    refine XS.iloadN X0.here hx rfl (hb hby dE_108) rfl ?_
                                    show Steps p.tables e below (s₁.setTop (mkF m 109 #[.val (.int p1)] [(.int p1)])) t
                                    refine XS.bipush X0.here hx rfl (hb hby dE_109) ?_
                                    exact k)
                                by_cases hc111 : p1 = (95 : Int32)
                                · exfalso
                                  simp only [Int32.lt_iff_toInt_lt, ← Int32.toInt_inj, own_l0, own_l33, own_l35, own_l36, own_l37, own_l38, own_l39, own_l42, own_l43, own_l45, own_l46, own_l48, own_l57, own_l65, own_l90, own_l94, own_l95, own_l96, own_l97, own_l122, own_l124, own_l126, own_l128] at hc3 hc9 hc17 hc31 hc45 hc51 hc57 hc63 hc69 hc75 hc81 hc87 hc93 hc99 hc105 hc111
                                  omega
                                · have pre88 : Go p e below s₁ (mkF m 114 #[.val (.int p1)] []) s₁ (entryFrame m #[(.int p1)] 1) := fun t k => pre87 t (XS.icmpNo X0.here hx rfl (hb hby dE_111) rfl (feq hc111).1 k)
                                  have pre89 : Go p e below s₁ (mkF m 117 #[.val (.int p1)] [(.int (96 : Int32)), (.int p1)]) s₁ (entryFrame m #[(.int p1)] 1) := fun t k => pre88 t (by
                                      show Steps p.tables e below (s₁.setTop (mkF m 114 #[.val (.int p1)] [])) t
                                      refine XS.iloadN X0.here hx rfl (hb hby dE_114) rfl ?_
                                      show Steps p.tables e below (s₁.setTop (mkF m 115 #[.val (.int p1)] [(.int p1)])) t
                                      refine XS.bipush X0.here hx rfl (hb hby dE_115) ?_
                                      exact k)
                                  by_cases hc117 : p1 = (96 : Int32)
                                  · exfalso
                                    simp only [Int32.lt_iff_toInt_lt, ← Int32.toInt_inj, own_l0, own_l33, own_l35, own_l36, own_l37, own_l38, own_l39, own_l42, own_l43, own_l45, own_l46, own_l48, own_l57, own_l65, own_l90, own_l94, own_l95, own_l96, own_l97, own_l122, own_l124, own_l126, own_l128] at hc3 hc9 hc17 hc31 hc45 hc51 hc57 hc63 hc69 hc75 hc81 hc87 hc93 hc99 hc105 hc111 hc117
                                    omega
                                  · have pre90 : Go p e below s₁ (mkF m 120 #[.val (.int p1)] []) s₁ (entryFrame m #[(.int p1)] 1) := fun t k => pre89 t (XS.icmpNo X0.here hx rfl (hb hby dE_117) rfl (feq hc117).1 k)
                                    have pre91 : Go p e below s₁ (mkF m 123 #[.val (.int p1)] [(.int (124 : Int32)), (.int p1)]) s₁ (entryFrame m #[(.int p1)] 1) := fun t k => pre90 t (by
                                        show Steps p.tables e below (s₁.setTop (mkF m 120 #[.val (.int p1)] [])) t
                                        refine XS.iloadN X0.here hx rfl (hb hby dE_120) rfl ?_
                                        show Steps p.tables e below (s₁.setTop (mkF m 121 #[.val (.int p1)] [(.int p1)])) t
                                        refine XS.bipush X0.here hx rfl (hb hby dE_121) ?_
                                        exact k)
                                    by_cases hc123 : p1 = (124 : Int32)
                                    · exfalso
                                      simp only [Int32.lt_iff_toInt_lt, ← Int32.toInt_inj, own_l0, own_l33, own_l35, own_l36, own_l37, own_l38, own_l39, own_l42, own_l43, own_l45, own_l46, own_l48, own_l57, own_l65, own_l90, own_l94, own_l95, own_l96, own_l97, own_l122, own_l124, own_l126, own_l128] at hc3 hc9 hc17 hc31 hc45 hc51 hc57 hc63 hc69 hc75 hc81 hc87 hc93 hc99 hc105 hc111 hc117 hc123
                                      omega
                                    · have pre92 : Go p e below s₁ (mkF m 126 #[.val (.int p1)] []) s₁ (entryFrame m #[(.int p1)] 1) := fun t k => pre91 t (XS.icmpNo X0.here hx rfl (hb hby dE_123) rfl (feq hc123).1 k)
                                      have pre93 : Go p e below s₁ (mkF m 129 #[.val (.int p1)] [(.int (126 : Int32)), (.int p1)]) s₁ (entryFrame m #[(.int p1)] 1) := fun t k => pre92 t (by
                                          show Steps p.tables e below (s₁.setTop (mkF m 126 #[.val (.int p1)] [])) t
                                          refine XS.iloadN X0.here hx rfl (hb hby dE_126) rfl ?_
                                          show Steps p.tables e below (s₁.setTop (mkF m 127 #[.val (.int p1)] [(.int p1)])) t
                                          refine XS.bipush X0.here hx rfl (hb hby dE_127) ?_
                                          exact k)
                                      by_cases hc129 : p1 = (126 : Int32)
                                      · exfalso
                                        simp only [Int32.lt_iff_toInt_lt, ← Int32.toInt_inj, own_l0, own_l33, own_l35, own_l36, own_l37, own_l38, own_l39, own_l42, own_l43, own_l45, own_l46, own_l48, own_l57, own_l65, own_l90, own_l94, own_l95, own_l96, own_l97, own_l122, own_l124, own_l126, own_l128] at hc3 hc9 hc17 hc31 hc45 hc51 hc57 hc63 hc69 hc75 hc81 hc87 hc93 hc99 hc105 hc111 hc117 hc123 hc129
                                        omega
                                      · have pre94 : Go p e below s₁ (mkF m 136 #[.val (.int p1)] []) s₁ (entryFrame m #[(.int p1)] 1) := fun t k => pre93 t (XS.icmpYes X0.here hx rfl (pc0 := 129) (pc' := 136) rfl (hb hby dE_129) rfl (feq hc129).2 (by decide) (by decide) k)
                                        have pre95 : Go p e below s₁ (mkF m 137 #[.val (.int p1)] [(.int (0 : Int32))]) s₁ (entryFrame m #[(.int p1)] 1) := fun t k => pre94 t (by
                                            show Steps p.tables e below (s₁.setTop (mkF m 136 #[.val (.int p1)] [])) t
                                            refine XS.iconst X0.here hx rfl (hb hby dE_136) ?_
                                            exact k)
                                        have hnr : Value.int (nar .boolean (0 : Int32)) = (.int (0 : Int32)) := by rfl
                                        obtain ⟨fs, hr, hrun, hended, hW, hsame⟩ := X0.leave (v := some (.int (0 : Int32))) (fun h => by rw [Bd.returns] at h; cases h)
                                        refine ⟨_, _, pre95 _ (retN X0 hx (t := .boolean) Bd.returns (by simp) (hb hby dE_137) (hnr ▸ hr)), hrun, hended, _, _, rfl, ?_, ⟨_, rfl⟩, hW, hsame.mono (by decide) (by decide)⟩
                                        show QE Z p1 r h0 n0 _ s₁.heap _
                                        rw [e0]
                                        exact ⟨by rw [← hR]; simp [expF, hc3, hc9, hc17, hc31, hc45, hc51, hc57, hc63, hc69, hc75, hc81, hc87, hc93, hc99, hc105, hc111, hc117, hc123, hc129], N0, rfl⟩
        · have pre96 : Go p e below s₁ (mkF m 34 #[.val (.int p1)] []) s₁ (entryFrame m #[(.int p1)] 1) := fun t k => pre63 t (XS.icmpNo X0.here hx rfl (hb hby dE_31) rfl (flt hc31).1 k)
          have pre97 : Go p e below s₁ (mkF m 37 #[.val (.int p1)] [(.int (90 : Int32)), (.int p1)]) s₁ (entryFrame m #[(.int p1)] 1) := fun t k => pre96 t (by
              show Steps p.tables e below (s₁.setTop (mkF m 34 #[.val (.int p1)] [])) t
              refine XS.iloadN X0.here hx rfl (hb hby dE_34) rfl ?_
              show Steps p.tables e below (s₁.setTop (mkF m 35 #[.val (.int p1)] [(.int p1)])) t
              refine XS.bipush X0.here hx rfl (hb hby dE_35) ?_
              exact k)
          by_cases hc37 : (90 : Int32) < p1
          · have pre98 : Go p e below s₁ (mkF m 42 #[.val (.int p1)] []) s₁ (entryFrame m #[(.int p1)] 1) := fun t k => pre97 t (XS.icmpYes X0.here hx rfl (pc0 := 37) (pc' := 42) rfl (hb hby dE_37) rfl (tlt hc37).2.2.1 (by decide) (by decide) k)
            have pre99 : Go p e below s₁ (mkF m 45 #[.val (.int p1)] [(.int (33 : Int32)), (.int p1)]) s₁ (entryFrame m #[(.int p1)] 1) := fun t k => pre98 t (by
                show Steps p.tables e below (s₁.setTop (mkF m 42 #[.val (.int p1)] [])) t
                refine XS.iloadN X0.here hx rfl (hb hby dE_42) rfl ?_
                show Steps p.tables e below (s₁.setTop (mkF m 43 #[.val (.int p1)] [(.int p1)])) t
                refine XS.bipush X0.here hx rfl (hb hby dE_43) ?_
                exact k)
            by_cases hc45 : p1 = (33 : Int32)
            · exfalso
              simp only [Int32.lt_iff_toInt_lt, ← Int32.toInt_inj, own_l0, own_l33, own_l35, own_l36, own_l37, own_l38, own_l39, own_l42, own_l43, own_l45, own_l46, own_l48, own_l57, own_l65, own_l90, own_l94, own_l95, own_l96, own_l97, own_l122, own_l124, own_l126, own_l128] at hc3 hc9 hc17 hc31 hc37 hc45
              omega
            · have pre100 : Go p e below s₁ (mkF m 48 #[.val (.int p1)] []) s₁ (entryFrame m #[(.int p1)] 1) := fun t k => pre99 t (XS.icmpNo X0.here hx rfl (hb hby dE_45) rfl (feq hc45).1 k)
              have pre101 : Go p e below s₁ (mkF m 51 #[.val (.int p1)] [(.int (35 : Int32)), (.int p1)]) s₁ (entryFrame m #[(.int p1)] 1) := fun t k => pre100 t (by
                  show Steps p.tables e below (s₁.setTop (mkF m 48 #[.val (.int p1)] [])) t
                  refine XS.iloadN X0.here hx rfl (hb hby dE_48) rfl ?_
                  show Steps p.tables e below (s₁.setTop (mkF m 49 #[.val (.int p1)] [(.int p1)])) t
                  refine XS.bipush X0.here hx rfl (hb hby dE_49) ?_
                  exact k)
              by_cases hc51 : p1 = (35 : Int32)
              · exfalso
                simp only [Int32.lt_iff_toInt_lt, ← Int32.toInt_inj, own_l0, own_l33, own_l35, own_l36, own_l37, own_l38, own_l39, own_l42, own_l43, own_l45, own_l46, own_l48, own_l57, own_l65, own_l90, own_l94, own_l95, own_l96, own_l97, own_l122, own_l124, own_l126, own_l128] at hc3 hc9 hc17 hc31 hc37 hc45 hc51
                omega
              · have pre102 : Go p e below s₁ (mkF m 54 #[.val (.int p1)] []) s₁ (entryFrame m #[(.int p1)] 1) := fun t k => pre101 t (XS.icmpNo X0.here hx rfl (hb hby dE_51) rfl (feq hc51).1 k)
                have pre103 : Go p e below s₁ (mkF m 57 #[.val (.int p1)] [(.int (36 : Int32)), (.int p1)]) s₁ (entryFrame m #[(.int p1)] 1) := fun t k => pre102 t (by
                    show Steps p.tables e below (s₁.setTop (mkF m 54 #[.val (.int p1)] [])) t
                    refine XS.iloadN X0.here hx rfl (hb hby dE_54) rfl ?_
                    show Steps p.tables e below (s₁.setTop (mkF m 55 #[.val (.int p1)] [(.int p1)])) t
                    refine XS.bipush X0.here hx rfl (hb hby dE_55) ?_
                    exact k)
                by_cases hc57 : p1 = (36 : Int32)
                · exfalso
                  simp only [Int32.lt_iff_toInt_lt, ← Int32.toInt_inj, own_l0, own_l33, own_l35, own_l36, own_l37, own_l38, own_l39, own_l42, own_l43, own_l45, own_l46, own_l48, own_l57, own_l65, own_l90, own_l94, own_l95, own_l96, own_l97, own_l122, own_l124, own_l126, own_l128] at hc3 hc9 hc17 hc31 hc37 hc45 hc51 hc57
                  omega
                · have pre104 : Go p e below s₁ (mkF m 60 #[.val (.int p1)] []) s₁ (entryFrame m #[(.int p1)] 1) := fun t k => pre103 t (XS.icmpNo X0.here hx rfl (hb hby dE_57) rfl (feq hc57).1 k)
                  have pre105 : Go p e below s₁ (mkF m 63 #[.val (.int p1)] [(.int (37 : Int32)), (.int p1)]) s₁ (entryFrame m #[(.int p1)] 1) := fun t k => pre104 t (by
                      show Steps p.tables e below (s₁.setTop (mkF m 60 #[.val (.int p1)] [])) t
                      refine XS.iloadN X0.here hx rfl (hb hby dE_60) rfl ?_
                      show Steps p.tables e below (s₁.setTop (mkF m 61 #[.val (.int p1)] [(.int p1)])) t
                      refine XS.bipush X0.here hx rfl (hb hby dE_61) ?_
                      exact k)
                  by_cases hc63 : p1 = (37 : Int32)
                  · exfalso
                    simp only [Int32.lt_iff_toInt_lt, ← Int32.toInt_inj, own_l0, own_l33, own_l35, own_l36, own_l37, own_l38, own_l39, own_l42, own_l43, own_l45, own_l46, own_l48, own_l57, own_l65, own_l90, own_l94, own_l95, own_l96, own_l97, own_l122, own_l124, own_l126, own_l128] at hc3 hc9 hc17 hc31 hc37 hc45 hc51 hc57 hc63
                    omega
                  · have pre106 : Go p e below s₁ (mkF m 66 #[.val (.int p1)] []) s₁ (entryFrame m #[(.int p1)] 1) := fun t k => pre105 t (XS.icmpNo X0.here hx rfl (hb hby dE_63) rfl (feq hc63).1 k)
                    have pre107 : Go p e below s₁ (mkF m 69 #[.val (.int p1)] [(.int (38 : Int32)), (.int p1)]) s₁ (entryFrame m #[(.int p1)] 1) := fun t k => pre106 t (by
                        show Steps p.tables e below (s₁.setTop (mkF m 66 #[.val (.int p1)] [])) t
                        refine XS.iloadN X0.here hx rfl (hb hby dE_66) rfl ?_
                        show Steps p.tables e below (s₁.setTop (mkF m 67 #[.val (.int p1)] [(.int p1)])) t
                        refine XS.bipush X0.here hx rfl (hb hby dE_67) ?_
                        exact k)
                    by_cases hc69 : p1 = (38 : Int32)
                    · exfalso
                      simp only [Int32.lt_iff_toInt_lt, ← Int32.toInt_inj, own_l0, own_l33, own_l35, own_l36, own_l37, own_l38, own_l39, own_l42, own_l43, own_l45, own_l46, own_l48, own_l57, own_l65, own_l90, own_l94, own_l95, own_l96, own_l97, own_l122, own_l124, own_l126, own_l128] at hc3 hc9 hc17 hc31 hc37 hc45 hc51 hc57 hc63 hc69
                      omega
                    · have pre108 : Go p e below s₁ (mkF m 72 #[.val (.int p1)] []) s₁ (entryFrame m #[(.int p1)] 1) := fun t k => pre107 t (XS.icmpNo X0.here hx rfl (hb hby dE_69) rfl (feq hc69).1 k)
                      have pre109 : Go p e below s₁ (mkF m 75 #[.val (.int p1)] [(.int (39 : Int32)), (.int p1)]) s₁ (entryFrame m #[(.int p1)] 1) := fun t k => pre108 t (by
                          show Steps p.tables e below (s₁.setTop (mkF m 72 #[.val (.int p1)] [])) t
                          refine XS.iloadN X0.here hx rfl (hb hby dE_72) rfl ?_
                          show Steps p.tables e below (s₁.setTop (mkF m 73 #[.val (.int p1)] [(.int p1)])) t
                          refine XS.bipush X0.here hx rfl (hb hby dE_73) ?_
                          exact k)
                      by_cases hc75 : p1 = (39 : Int32)
                      · exfalso
                        simp only [Int32.lt_iff_toInt_lt, ← Int32.toInt_inj, own_l0, own_l33, own_l35, own_l36, own_l37, own_l38, own_l39, own_l42, own_l43, own_l45, own_l46, own_l48, own_l57, own_l65, own_l90, own_l94, own_l95, own_l96, own_l97, own_l122, own_l124, own_l126, own_l128] at hc3 hc9 hc17 hc31 hc37 hc45 hc51 hc57 hc63 hc69 hc75
                        omega
                      · have pre110 : Go p e below s₁ (mkF m 78 #[.val (.int p1)] []) s₁ (entryFrame m #[(.int p1)] 1) := fun t k => pre109 t (XS.icmpNo X0.here hx rfl (hb hby dE_75) rfl (feq hc75).1 k)
                        have pre111 : Go p e below s₁ (mkF m 81 #[.val (.int p1)] [(.int (42 : Int32)), (.int p1)]) s₁ (entryFrame m #[(.int p1)] 1) := fun t k => pre110 t (by
                            show Steps p.tables e below (s₁.setTop (mkF m 78 #[.val (.int p1)] [])) t
                            refine XS.iloadN X0.here hx rfl (hb hby dE_78) rfl ?_
                            show Steps p.tables e below (s₁.setTop (mkF m 79 #[.val (.int p1)] [(.int p1)])) t
                            refine XS.bipush X0.here hx rfl (hb hby dE_79) ?_
                            exact k)
                        by_cases hc81 : p1 = (42 : Int32)
                        · exfalso
                          simp only [Int32.lt_iff_toInt_lt, ← Int32.toInt_inj, own_l0, own_l33, own_l35, own_l36, own_l37, own_l38, own_l39, own_l42, own_l43, own_l45, own_l46, own_l48, own_l57, own_l65, own_l90, own_l94, own_l95, own_l96, own_l97, own_l122, own_l124, own_l126, own_l128] at hc3 hc9 hc17 hc31 hc37 hc45 hc51 hc57 hc63 hc69 hc75 hc81
                          omega
                        · have pre112 : Go p e below s₁ (mkF m 84 #[.val (.int p1)] []) s₁ (entryFrame m #[(.int p1)] 1) := fun t k => pre111 t (XS.icmpNo X0.here hx rfl (hb hby dE_81) rfl (feq hc81).1 k)
                          have pre113 : Go p e below s₁ (mkF m 87 #[.val (.int p1)] [(.int (43 : Int32)), (.int p1)]) s₁ (entryFrame m #[(.int p1)] 1) := fun t k => pre112 t (by
                              show Steps p.tables e below (s₁.setTop (mkF m 84 #[.val (.int p1)] [])) t
                              refine XS.iloadN X0.here hx rfl (hb hby dE_84) rfl ?_
                              show Steps p.tables e below (s₁.setTop (mkF m 85 #[.val (.int p1)] [(.int p1)])) t
                              refine XS.bipush X0.here hx rfl (hb hby dE_85) ?_
                              exact k)
                          by_cases hc87 : p1 = (43 : Int32)
                          · exfalso
                            simp only [Int32.lt_iff_toInt_lt, ← Int32.toInt_inj, own_l0, own_l33, own_l35, own_l36, own_l37, own_l38, own_l39, own_l42, own_l43, own_l45, own_l46, own_l48, own_l57, own_l65, own_l90, own_l94, own_l95, own_l96, own_l97, own_l122, own_l124, own_l126, own_l128] at hc3 hc9 hc17 hc31 hc37 hc45 hc51 hc57 hc63 hc69 hc75 hc81 hc87
                            omega
                          · have pre114 : Go p e below s₁ (mkF m 90 #[.val (.int p1)] []) s₁ (entryFrame m #[(.int p1)] 1) := fun t k => pre113 t (XS.icmpNo X0.here hx rfl (hb hby dE_87) rfl (feq hc87).1 k)
                            have pre115 : Go p e below s₁ (mkF m 93 #[.val (.int p1)] [(.int (45 : Int32)), (.int p1)]) s₁ (entryFrame m #[(.int p1)] 1) := fun t k => pre114 t (by
                                show Steps p.tables e below (s₁.setTop (mkF m 90 #[.val (.int p1)] [])) t
                                refine XS.iloadN X0.here hx rfl (hb hby dE_90) rfl ?_
                                show Steps p.tables e below (s₁.setTop (mkF m 91 #[.val (.int p1)] [(.int p1)])) t
                                refine XS.bipush X0.here hx rfl (hb hby dE_91) ?_
                                exact k)
                            by_cases hc93 : p1 = (45 : Int32)
                            · exfalso
                              simp only [Int32.lt_iff_toInt_lt, ← Int32.toInt_inj, own_l0, own_l33, own_l35, own_l36, own_l37, own_l38, own_l39, own_l42, own_l43, own_l45, own_l46, own_l48, own_l57, own_l65, own_l90, own_l94, own_l95, own_l96, own_l97, own_l122, own_l124, own_l126, own_l128] at hc3 hc9 hc17 hc31 hc37 hc45 hc51 hc57 hc63 hc69 hc75 hc81 hc87 hc93
                              omega
                            · have pre116 : Go p e below s₁ (mkF m 96 #[.val (.int p1)] []) s₁ (entryFrame m #[(.int p1)] 1) := fun t k => pre115 t (XS.icmpNo X0.here hx rfl (hb hby dE_93) rfl (feq hc93).1 k)
                              have pre117 : Go p e below s₁ (mkF m 99 #[.val (.int p1)] [(.int (46 : Int32)), (.int p1)]) s₁ (entryFrame m #[(.int p1)] 1) := fun t k => pre116 t (by
                                  show Steps p.tables e below (s₁.setTop (mkF m 96 #[.val (.int p1)] [])) t
                                  refine XS.iloadN X0.here hx rfl (hb hby dE_96) rfl ?_
                                  show Steps p.tables e below (s₁.setTop (mkF m 97 #[.val (.int p1)] [(.int p1)])) t
                                  refine XS.bipush X0.here hx rfl (hb hby dE_97) ?_
                                  exact k)
                              by_cases hc99 : p1 = (46 : Int32)
                              · exfalso
                                simp only [Int32.lt_iff_toInt_lt, ← Int32.toInt_inj, own_l0, own_l33, own_l35, own_l36, own_l37, own_l38, own_l39, own_l42, own_l43, own_l45, own_l46, own_l48, own_l57, own_l65, own_l90, own_l94, own_l95, own_l96, own_l97, own_l122, own_l124, own_l126, own_l128] at hc3 hc9 hc17 hc31 hc37 hc45 hc51 hc57 hc63 hc69 hc75 hc81 hc87 hc93 hc99
                                omega
                              · have pre118 : Go p e below s₁ (mkF m 102 #[.val (.int p1)] []) s₁ (entryFrame m #[(.int p1)] 1) := fun t k => pre117 t (XS.icmpNo X0.here hx rfl (hb hby dE_99) rfl (feq hc99).1 k)
                                have pre119 : Go p e below s₁ (mkF m 105 #[.val (.int p1)] [(.int (94 : Int32)), (.int p1)]) s₁ (entryFrame m #[(.int p1)] 1) := fun t k => pre118 t (by
                                    show Steps p.tables e below (s₁.setTop (mkF m 102 #[.val (.int p1)] [])) t
                                    refine XS.iloadN X0.here hx rfl (hb hby dE_102) rfl ?_
                                    show Steps p.tables e below (s₁.setTop (mkF m 103 #[.val (.int p1)] [(.int p1)])) t
                                    refine XS.bipush X0.here hx rfl (hb hby dE_103) ?_
                                    exact k)
                                by_cases hc105 : p1 = (94 : Int32)
                                · have pre120 : Go p e below s₁ (mkF m 132 #[.val (.int p1)] []) s₁ (entryFrame m #[(.int p1)] 1) := fun t k => pre119 t (XS.icmpYes X0.here hx rfl (pc0 := 105) (pc' := 132) rfl (hb hby dE_105) rfl (teq hc105).1 (by decide) (by decide) k)
                                  have pre121 : Go p e below s₁ (mkF m 137 #[.val (.int p1)] [(.int (1 : Int32))]) s₁ (entryFrame m #[(.int p1)] 1) := fun t k => pre120 t (by
                                      show Steps p.tables e below (s₁.setTop (mkF m 132 #[.val (.int p1)] [])) t
                                      refine XS.iconst X0.here hx rfl (hb hby dE_132) ?_
                                      show Steps p.tables e below (s₁.setTop (mkF m 133 #[.val (.int p1)] [(.int (1 : Int32))])) t
                                      refine XS.goto X0.here hx rfl (pc0 := 133) (pc' := 137) rfl (hb hby dE_133) (by decide) (by decide) ?_
                                      exact k)
                                  have hnr : Value.int (nar .boolean (1 : Int32)) = (.int (1 : Int32)) := by rfl
                                  obtain ⟨fs, hr, hrun, hended, hW, hsame⟩ := X0.leave (v := some (.int (1 : Int32))) (fun h => by rw [Bd.returns] at h; cases h)
                                  refine ⟨_, _, pre121 _ (retN X0 hx (t := .boolean) Bd.returns (by simp) (hb hby dE_137) (hnr ▸ hr)), hrun, hended, _, _, rfl, ?_, ⟨_, rfl⟩, hW, hsame.mono (by decide) (by decide)⟩
                                  show QE Z p1 r h0 n0 _ s₁.heap _
                                  rw [e0]
                                  exact ⟨by rw [← hR]; simp [expF, hc3, hc9, hc17, hc31, hc37, hc45, hc51, hc57, hc63, hc69, hc75, hc81, hc87, hc93, hc99, hc105], N0, rfl⟩
                                · have pre122 : Go p e below s₁ (mkF m 108 #[.val (.int p1)] []) s₁ (entryFrame m #[(.int p1)] 1) := fun t k => pre119 t (XS.icmpNo X0.here hx rfl (hb hby dE_105) rfl (feq hc105).1 k)
                                  have pre123 : Go p e below s₁ (mkF m 111 #[.val (.int p1)] [(.int (95 : Int32)), (.int p1)]) s₁ (entryFrame m #[(.int p1)] 1) := fun t k => pre122 t (by
                                      show Steps p.tables e below (s₁.setTop (mkF m 108 #[.val (.int p1)] [])) t
                                      refine XS.iloadN X0.here hx rfl (hb hby dE_108) rfl ?_
                                      show Steps p.tables e below (s₁.setTop (mkF m 109 #[.val (.int p1)] [(.int p1)])) t
                                      refine XS.bipush X0.here hx rfl (hb hby dE_109) ?_
                                      exact k)
                                  by_cases hc111 : p1 = (95 : Int32)
                                  · have pre124 : Go p e below s₁ (mkF m 132 #[.val (.int p1)] []) s₁ (entryFrame m #[(.int p1)] 1) := fun t k => pre123 t (XS.icmpYes X0.here hx rfl (pc0 := 111) (pc' := 132) rfl (hb hby dE_111) rfl (teq hc111).1 (by decide) (by decide) k)
                                    have pre125 : Go p e below s₁ (mkF m 137 #[.val (.int p1)] [(.int (1 : Int32))]) s₁ (entryFrame m #[(.int p1)] 1) := fun t k => pre124 t (by
                                        show Steps p.tables e below (s₁.setTop (mkF m 132 #[.val (.int p1)] [])) t
                                        refine XS.iconst X0.here hx rfl (hb hby dE_132) ?_
                                        show Steps p.tables e below (s₁.setTop (mkF m 133 #[.val (.int p1)] [(.int (1 : Int32))])) t
                                        refine XS.goto X0.here hx rfl (pc0 := 133) (pc' := 137) rfl (hb hby dE_133) (by decide) (by decide) ?_
                                        exact k)
                                    have hnr : Value.int (nar .boolean (1 : Int32)) = (.int (1 : Int32)) := by rfl
                                    obtain ⟨fs, hr, hrun, hended, hW, hsame⟩ := X0.leave (v := some (.int (1 : Int32))) (fun h => by rw [Bd.returns] at h; cases h)
                                    refine ⟨_, _, pre125 _ (retN X0 hx (t := .boolean) Bd.returns (by simp) (hb hby dE_137) (hnr ▸ hr)), hrun, hended, _, _, rfl, ?_, ⟨_, rfl⟩, hW, hsame.mono (by decide) (by decide)⟩
                                    show QE Z p1 r h0 n0 _ s₁.heap _
                                    rw [e0]
                                    exact ⟨by rw [← hR]; simp [expF, hc3, hc9, hc17, hc31, hc37, hc45, hc51, hc57, hc63, hc69, hc75, hc81, hc87, hc93, hc99, hc105, hc111], N0, rfl⟩
                                  · have pre126 : Go p e below s₁ (mkF m 114 #[.val (.int p1)] []) s₁ (entryFrame m #[(.int p1)] 1) := fun t k => pre123 t (XS.icmpNo X0.here hx rfl (hb hby dE_111) rfl (feq hc111).1 k)
                                    have pre127 : Go p e below s₁ (mkF m 117 #[.val (.int p1)] [(.int (96 : Int32)), (.int p1)]) s₁ (entryFrame m #[(.int p1)] 1) := fun t k => pre126 t (by
                                        show Steps p.tables e below (s₁.setTop (mkF m 114 #[.val (.int p1)] [])) t
                                        refine XS.iloadN X0.here hx rfl (hb hby dE_114) rfl ?_
                                        show Steps p.tables e below (s₁.setTop (mkF m 115 #[.val (.int p1)] [(.int p1)])) t
                                        refine XS.bipush X0.here hx rfl (hb hby dE_115) ?_
                                        exact k)
                                    by_cases hc117 : p1 = (96 : Int32)
                                    · have pre128 : Go p e below s₁ (mkF m 132 #[.val (.int p1)] []) s₁ (entryFrame m #[(.int p1)] 1) := fun t k => pre127 t (XS.icmpYes X0.here hx rfl (pc0 := 117) (pc' := 132) rfl (hb hby dE_117) rfl (teq hc117).1 (by decide) (by decide) k)
                                      have pre129 : Go p e below s₁ (mkF m 137 #[.val (.int p1)] [(.int (1 : Int32))]) s₁ (entryFrame m #[(.int p1)] 1) := fun t k => pre128 t (by
                                          show Steps p.tables e below (s₁.setTop (mkF m 132 #[.val (.int p1)] [])) t
                                          refine XS.iconst X0.here hx rfl (hb hby dE_132) ?_
                                          show Steps p.tables e below (s₁.setTop (mkF m 133 #[.val (.int p1)] [(.int (1 : Int32))])) t
                                          refine XS.goto X0.here hx rfl (pc0 := 133) (pc' := 137) rfl (hb hby dE_133) (by decide) (by decide) ?_
                                          exact k)
                                      have hnr : Value.int (nar .boolean (1 : Int32)) = (.int (1 : Int32)) := by rfl
                                      obtain ⟨fs, hr, hrun, hended, hW, hsame⟩ := X0.leave (v := some (.int (1 : Int32))) (fun h => by rw [Bd.returns] at h; cases h)
                                      refine ⟨_, _, pre129 _ (retN X0 hx (t := .boolean) Bd.returns (by simp) (hb hby dE_137) (hnr ▸ hr)), hrun, hended, _, _, rfl, ?_, ⟨_, rfl⟩, hW, hsame.mono (by decide) (by decide)⟩
                                      show QE Z p1 r h0 n0 _ s₁.heap _
                                      rw [e0]
                                      exact ⟨by rw [← hR]; simp [expF, hc3, hc9, hc17, hc31, hc37, hc45, hc51, hc57, hc63, hc69, hc75, hc81, hc87, hc93, hc99, hc105, hc111, hc117], N0, rfl⟩
                                    · have pre130 : Go p e below s₁ (mkF m 120 #[.val (.int p1)] []) s₁ (entryFrame m #[(.int p1)] 1) := fun t k => pre127 t (XS.icmpNo X0.here hx rfl (hb hby dE_117) rfl (feq hc117).1 k)
                                      have pre131 : Go p e below s₁ (mkF m 123 #[.val (.int p1)] [(.int (124 : Int32)), (.int p1)]) s₁ (entryFrame m #[(.int p1)] 1) := fun t k => pre130 t (by
                                          show Steps p.tables e below (s₁.setTop (mkF m 120 #[.val (.int p1)] [])) t
                                          refine XS.iloadN X0.here hx rfl (hb hby dE_120) rfl ?_
                                          show Steps p.tables e below (s₁.setTop (mkF m 121 #[.val (.int p1)] [(.int p1)])) t
                                          refine XS.bipush X0.here hx rfl (hb hby dE_121) ?_
                                          exact k)
                                      by_cases hc123 : p1 = (124 : Int32)
                                      · exfalso
                                        simp only [Int32.lt_iff_toInt_lt, ← Int32.toInt_inj, own_l0, own_l33, own_l35, own_l36, own_l37, own_l38, own_l39, own_l42, own_l43, own_l45, own_l46, own_l48, own_l57, own_l65, own_l90, own_l94, own_l95, own_l96, own_l97, own_l122, own_l124, own_l126, own_l128] at hc3 hc9 hc17 hc31 hc37 hc45 hc51 hc57 hc63 hc69 hc75 hc81 hc87 hc93 hc99 hc105 hc111 hc117 hc123
                                        omega
                                      · have pre132 : Go p e below s₁ (mkF m 126 #[.val (.int p1)] []) s₁ (entryFrame m #[(.int p1)] 1) := fun t k => pre131 t (XS.icmpNo X0.here hx rfl (hb hby dE_123) rfl (feq hc123).1 k)
                                        have pre133 : Go p e below s₁ (mkF m 129 #[.val (.int p1)] [(.int (126 : Int32)), (.int p1)]) s₁ (entryFrame m #[(.int p1)] 1) := fun t k => pre132 t (by
                                            show Steps p.tables e below (s₁.setTop (mkF m 126 #[.val (.int p1)] [])) t
                                            refine XS.iloadN X0.here hx rfl (hb hby dE_126) rfl ?_
                                            show Steps p.tables e below (s₁.setTop (mkF m 127 #[.val (.int p1)] [(.int p1)])) t
                                            refine XS.bipush X0.here hx rfl (hb hby dE_127) ?_
                                            exact k)
                                        by_cases hc129 : p1 = (126 : Int32)
                                        · exfalso
                                          simp only [Int32.lt_iff_toInt_lt, ← Int32.toInt_inj, own_l0, own_l33, own_l35, own_l36, own_l37, own_l38, own_l39, own_l42, own_l43, own_l45, own_l46, own_l48, own_l57, own_l65, own_l90, own_l94, own_l95, own_l96, own_l97, own_l122, own_l124, own_l126, own_l128] at hc3 hc9 hc17 hc31 hc37 hc45 hc51 hc57 hc63 hc69 hc75 hc81 hc87 hc93 hc99 hc105 hc111 hc117 hc123 hc129
                                          omega
                                        · have pre134 : Go p e below s₁ (mkF m 136 #[.val (.int p1)] []) s₁ (entryFrame m #[(.int p1)] 1) := fun t k => pre133 t (XS.icmpYes X0.here hx rfl (pc0 := 129) (pc' := 136) rfl (hb hby dE_129) rfl (feq hc129).2 (by decide) (by decide) k)
                                          have pre135 : Go p e below s₁ (mkF m 137 #[.val (.int p1)] [(.int (0 : Int32))]) s₁ (entryFrame m #[(.int p1)] 1) := fun t k => pre134 t (by
                                              show Steps p.tables e below (s₁.setTop (mkF m 136 #[.val (.int p1)] [])) t
                                              refine XS.iconst X0.here hx rfl (hb hby dE_136) ?_
                                              exact k)
                                          have hnr : Value.int (nar .boolean (0 : Int32)) = (.int (0 : Int32)) := by rfl
                                          obtain ⟨fs, hr, hrun, hended, hW, hsame⟩ := X0.leave (v := some (.int (0 : Int32))) (fun h => by rw [Bd.returns] at h; cases h)
                                          refine ⟨_, _, pre135 _ (retN X0 hx (t := .boolean) Bd.returns (by simp) (hb hby dE_137) (hnr ▸ hr)), hrun, hended, _, _, rfl, ?_, ⟨_, rfl⟩, hW, hsame.mono (by decide) (by decide)⟩
                                          show QE Z p1 r h0 n0 _ s₁.heap _
                                          rw [e0]
                                          exact ⟨by rw [← hR]; simp [expF, hc3, hc9, hc17, hc31, hc37, hc45, hc51, hc57, hc63, hc69, hc75, hc81, hc87, hc93, hc99, hc105, hc111, hc117, hc123, hc129], N0, rfl⟩
          · have pre136 : Go p e below s₁ (mkF m 40 #[.val (.int p1)] []) s₁ (entryFrame m #[(.int p1)] 1) := fun t k => pre97 t (XS.icmpNo X0.here hx rfl (hb hby dE_37) rfl (flt hc37).2.2.1 k)
            have pre137 : Go p e below s₁ (mkF m 41 #[.val (.int p1)] [(.int (1 : Int32))]) s₁ (entryFrame m #[(.int p1)] 1) := fun t k => pre136 t (by
                show Steps p.tables e below (s₁.setTop (mkF m 40 #[.val (.int p1)] [])) t
                refine XS.iconst X0.here hx rfl (hb hby dE_40) ?_
                exact k)
            have hnr : Value.int (nar .boolean (1 : Int32)) = (.int (1 : Int32)) := by rfl
            obtain ⟨fs, hr, hrun, hended, hW, hsame⟩ := X0.leave (v := some (.int (1 : Int32))) (fun h => by rw [Bd.returns] at h; cases h)
            refine ⟨_, _, pre137 _ (retN X0 hx (t := .boolean) Bd.returns (by simp) (hb hby dE_41) (hnr ▸ hr)), hrun, hended, _, _, rfl, ?_, ⟨_, rfl⟩, hW, hsame.mono (by decide) (by decide)⟩
            show QE Z p1 r h0 n0 _ s₁.heap _
            rw [e0]
            exact ⟨by rw [← hR]; simp [expF, hc3, hc9, hc17, hc31, hc37], N0, rfl⟩
      · have pre138 : Go p e below s₁ (mkF m 20 #[.val (.int p1)] []) s₁ (entryFrame m #[(.int p1)] 1) := fun t k => pre61 t (XS.icmpNo X0.here hx rfl (hb hby dE_17) rfl (flt hc17).1 k)
        have pre139 : Go p e below s₁ (mkF m 23 #[.val (.int p1)] [(.int (122 : Int32)), (.int p1)]) s₁ (entryFrame m #[(.int p1)] 1) := fun t k => pre138 t (by
            show Steps p.tables e below (s₁.setTop (mkF m 20 #[.val (.int p1)] [])) t
            refine XS.iloadN X0.here hx rfl (hb hby dE_20) rfl ?_
            show Steps p.tables e below (s₁.setTop (mkF m 21 #[.val (.int p1)] [(.int p1)])) t
            refine XS.bipush X0.here hx rfl (hb hby dE_21) ?_
            exact k)
        by_cases hc23 : (122 : Int32) < p1
        · have pre140 : Go p e below s₁ (mkF m 28 #[.val (.int p1)] []) s₁ (entryFrame m #[(.int p1)] 1) := fun t k => pre139 t (XS.icmpYes X0.here hx rfl (pc0 := 23) (pc' := 28) rfl (hb hby dE_23) rfl (tlt hc23).2.2.1 (by decide) (by decide) k)
          have pre141 : Go p e below s₁ (mkF m 31 #[.val (.int p1)] [(.int (65 : Int32)), (.int p1)]) s₁ (entryFrame m #[(.int p1)] 1) := fun t k => pre140 t (by
              show Steps p.tables e below (s₁.setTop (mkF m 28 #[.val (.int p1)] [])) t
              refine XS.iloadN X0.here hx rfl (hb hby dE_28) rfl ?_
              show Steps p.tables e below (s₁.setTop (mkF m 29 #[.val (.int p1)] [(.int p1)])) t
              refine XS.bipush X0.here hx rfl (hb hby dE_29) ?_
              exact k)
          by_cases hc31 : p1 < (65 : Int32)
          · exfalso
            simp only [Int32.lt_iff_toInt_lt, ← Int32.toInt_inj, own_l0, own_l33, own_l35, own_l36, own_l37, own_l38, own_l39, own_l42, own_l43, own_l45, own_l46, own_l48, own_l57, own_l65, own_l90, own_l94, own_l95, own_l96, own_l97, own_l122, own_l124, own_l126, own_l128] at hc3 hc9 hc17 hc23 hc31
            omega
          · have pre142 : Go p e below s₁ (mkF m 34 #[.val (.int p1)] []) s₁ (entryFrame m #[(.int p1)] 1) := fun t k => pre141 t (XS.icmpNo X0.here hx rfl (hb hby dE_31) rfl (flt hc31).1 k)
            have pre143 : Go p e below s₁ (mkF m 37 #[.val (.int p1)] [(.int (90 : Int32)), (.int p1)]) s₁ (entryFrame m #[(.int p1)] 1) := fun t k => pre142 t (by
                show Steps p.tables e below (s₁.setTop (mkF m 34 #[.val (.int p1)] [])) t
                refine XS.iloadN X0.here hx rfl (hb hby dE_34) rfl ?_
                show Steps p.tables e below (s₁.setTop (mkF m 35 #[.val (.int p1)] [(.int p1)])) t
                refine XS.bipush X0.here hx rfl (hb hby dE_35) ?_
                exact k)
            by_cases hc37 : (90 : Int32) < p1
            · have pre144 : Go p e below s₁ (mkF m 42 #[.val (.int p1)] []) s₁ (entryFrame m #[(.int p1)] 1) := fun t k => pre143 t (XS.icmpYes X0.here hx rfl (pc0 := 37) (pc' := 42) rfl (hb hby dE_37) rfl (tlt hc37).2.2.1 (by decide) (by decide) k)
              have pre145 : Go p e below s₁ (mkF m 45 #[.val (.int p1)] [(.int (33 : Int32)), (.int p1)]) s₁ (entryFrame m #[(.int p1)] 1) := fun t k => pre144 t (by
                  show Steps p.tables e below (s₁.setTop (mkF m 42 #[.val (.int p1)] [])) t
                  refine XS.iloadN X0.here hx rfl (hb hby dE_42) rfl ?_
                  show Steps p.tables e below (s₁.setTop (mkF m 43 #[.val (.int p1)] [(.int p1)])) t
                  refine XS.bipush X0.here hx rfl (hb hby dE_43) ?_
                  exact k)
              by_cases hc45 : p1 = (33 : Int32)
              · exfalso
                simp only [Int32.lt_iff_toInt_lt, ← Int32.toInt_inj, own_l0, own_l33, own_l35, own_l36, own_l37, own_l38, own_l39, own_l42, own_l43, own_l45, own_l46, own_l48, own_l57, own_l65, own_l90, own_l94, own_l95, own_l96, own_l97, own_l122, own_l124, own_l126, own_l128] at hc3 hc9 hc17 hc23 hc31 hc37 hc45
                omega
              · have pre146 : Go p e below s₁ (mkF m 48 #[.val (.int p1)] []) s₁ (entryFrame m #[(.int p1)] 1) := fun t k => pre145 t (XS.icmpNo X0.here hx rfl (hb hby dE_45) rfl (feq hc45).1 k)
                have pre147 : Go p e below s₁ (mkF m 51 #[.val (.int p1)] [(.int (35 : Int32)), (.int p1)]) s₁ (entryFrame m #[(.int p1)] 1) := fun t k => pre146 t (by
                    show Steps p.tables e below (s₁.setTop (mkF m 48 #[.val (.int p1)] [])) t
                    refine XS.iloadN X0.here hx rfl (hb hby dE_48) rfl ?_
                    show Steps p.tables e below (s₁.setTop (mkF m 49 #[.val (.int p1)] [(.int p1)])) t
                    refine XS.bipush X0.here hx rfl (hb hby dE_49) ?_
                    exact k)
                by_cases hc51 : p1 = (35 : Int32)
                · exfalso
                  simp only [Int32.lt_iff_toInt_lt, ← Int32.toInt_inj, own_l0, own_l33, own_l35, own_l36, own_l37, own_l38, own_l39, own_l42, own_l43, own_l45, own_l46, own_l48, own_l57, own_l65, own_l90, own_l94, own_l95, own_l96, own_l97, own_l122, own_l124, own_l126, own_l128] at hc3 hc9 hc17 hc23 hc31 hc37 hc45 hc51
                  omega
                · have pre148 : Go p e below s₁ (mkF m 54 #[.val (.int p1)] []) s₁ (entryFrame m #[(.int p1)] 1) := fun t k => pre147 t (XS.icmpNo X0.here hx rfl (hb hby dE_51) rfl (feq hc51).1 k)
                  have pre149 : Go p e below s₁ (mkF m 57 #[.val (.int p1)] [(.int (36 : Int32)), (.int p1)]) s₁ (entryFrame m #[(.int p1)] 1) := fun t k => pre148 t (by
                      show Steps p.tables e below (s₁.setTop (mkF m 54 #[.val (.int p1)] [])) t
                      refine XS.iloadN X0.here hx rfl (hb hby dE_54) rfl ?_
                      show Steps p.tables e below (s₁.setTop (mkF m 55 #[.val (.int p1)] [(.int p1)])) t
                      refine XS.bipush X0.here hx rfl (hb hby dE_55) ?_
                      exact k)
                  by_cases hc57 : p1 = (36 : Int32)
                  · exfalso
                    simp only [Int32.lt_iff_toInt_lt, ← Int32.toInt_inj, own_l0, own_l33, own_l35, own_l36, own_l37, own_l38, own_l39, own_l42, own_l43, own_l45, own_l46, own_l48, own_l57, own_l65, own_l90, own_l94, own_l95, own_l96, own_l97, own_l122, own_l124, own_l126, own_l128] at hc3 hc9 hc17 hc23 hc31 hc37 hc45 hc51 hc57
                    omega
                  · have pre150 : Go p e below s₁ (mkF m 60 #[.val (.int p1)] []) s₁ (entryFrame m #[(.int p1)] 1) := fun t k => pre149 t (XS.icmpNo X0.here hx rfl (hb hby dE_57) rfl (feq hc57).1 k)
                    have pre151 : Go p e below s₁ (mkF m 63 #[.val (.int p1)] [(.int (37 : Int32)), (.int p1)]) s₁ (entryFrame m #[(.int p1)] 1) := fun t k => pre150 t (by
                        show Steps p.tables e below (s₁.setTop (mkF m 60 #[.val (.int p1)] [])) t
                        refine XS.iloadN X0.here hx rfl (hb hby dE_60) rfl ?_
                        show Steps p.tables e below (s₁.setTop (mkF m 61 #[.val (.int p1)] [(.int p1)])) t
                        refine XS.bipush X0.here hx rfl (hb hby dE_61) ?_
                        exact k)
                    by_cases hc63 : p1 = (37 : Int32)
                    · exfalso
                      simp only [Int32.lt_iff_toInt_lt, ← Int32.toInt_inj, own_l0, own_l33, own_l35, own_l36, own_l37, own_l38, own_l39, own_l42, own_l43, own_l45, own_l46, own_l48, own_l57, own_l65, own_l90, own_l94, own_l95, own_l96, own_l97, own_l122, own_l124, own_l126, own_l128] at hc3 hc9 hc17 hc23 hc31 hc37 hc45 hc51 hc57 hc63
                      omega
                    · have pre152 : Go p e below s₁ (mkF m 66 #[.val (.int p1)] []) s₁ (entryFrame m #[(.int p1)] 1) := fun t k => pre151 t (XS.icmpNo X0.here hx rfl (hb hby dE_63) rfl (feq hc63).1 k)
                      have pre153 : Go p e below s₁ (mkF m 69 #[.val (.int p1)] [(.int (38 : Int32)), (.int p1)]) s₁ (entryFrame m #[(.int p1)] 1) := fun t k => pre152 t (by
                          show Steps p.tables e below (s₁.setTop (mkF m 66 #[.val (.int p1)] [])) t
                          refine XS.iloadN X0.here hx rfl (hb hby dE_66) rfl ?_
                          show Steps p.tables e below (s₁.setTop (mkF m 67 #[.val (.int p1)] [(.int p1)])) t
                          refine XS.bipush X0.here hx rfl (hb hby dE_67) ?_
                          exact k)
                      by_cases hc69 : p1 = (38 : Int32)
                      · exfalso
                        simp only [Int32.lt_iff_toInt_lt, ← Int32.toInt_inj, own_l0, own_l33, own_l35, own_l36, own_l37, own_l38, own_l39, own_l42, own_l43, own_l45, own_l46, own_l48, own_l57, own_l65, own_l90, own_l94, own_l95, own_l96, own_l97, own_l122, own_l124, own_l126, own_l128] at hc3 hc9 hc17 hc23 hc31 hc37 hc45 hc51 hc57 hc63 hc69
                        omega
                      · have pre154 : Go p e below s₁ (mkF m 72 #[.val (.int p1)] []) s₁ (entryFrame m #[(.int p1)] 1) := fun t k => pre153 t (XS.icmpNo X0.here hx rfl (hb hby dE_69) rfl (feq hc69).1 k)
                        have pre155 : Go p e below s₁ (mkF m 75 #[.val (.int p1)] [(.int (39 : Int32)), (.int p1)]) s₁ (entryFrame m #[(.int p1)] 1) := fun t k => pre154 t (by
                            show Steps p.tables e below (s₁.setTop (mkF m 72 #[.val (.int p1)] [])) t
                            refine XS.iloadN X0.here hx rfl (hb hby dE_72) rfl ?_
                            show Steps p.tables e below (s₁.setTop (mkF m 73 #[.val (.int p1)] [(.int p1)])) t
                            refine XS.bipush X0.here hx rfl (hb hby dE_73) ?_
                            exact k)
                        by_cases hc75 : p1 = (39 : Int32)
                        · exfalso
                          simp only [Int32.lt_iff_toInt_lt, ← Int32.toInt_inj, own_l0, own_l33, own_l35, own_l36, own_l37, own_l38, own_l39, own_l42, own_l43, own_l45, own_l46, own_l48, own_l57, own_l65, own_l90, own_l94, own_l95, own_l96, own_l97, own_l122, own_l124, own_l126, own_l128] at hc3 hc9 hc17 hc23 hc31 hc37 hc45 hc51 hc57 hc63 hc69 hc75
                          omega
                        · have pre156 : Go p e below s₁ (mkF m 78 #[.val (.int p1)] []) s₁ (entryFrame m #[(.int p1)] 1) := fun t k => pre155 t (XS.icmpNo X0.here hx rfl (hb hby dE_75) rfl (feq hc75).1 k)
                          have pre157 : Go p e below s₁ (mkF m 81 #[.val (.int p1)] [(.int (42 : Int32)), (.int p1)]) s₁ (entryFrame m #[(.int p1)] 1) := fun t k => pre156 t (by
                              show Steps p.tables e below (s₁.setTop (mkF m 78 #[.val (.int p1)] [])) t
                              refine XS.iloadN X0.here hx rfl (hb hby dE_78) rfl ?_
                              show Steps p.tables e below (s₁.setTop (mkF m 79 #[.val (.int p1)] [(.int p1)])) t
                              refine XS.bipush X0.here hx rfl (hb hby dE_79) ?_
                              exact k)
                          by_cases hc81 : p1 = (42 : Int32)
                          · exfalso
                            simp only [Int32.lt_iff_toInt_lt, ← Int32.toInt_inj, own_l0, own_l33, own_l35, own_l36, own_l37, own_l38, own_l39, own_l42, own_l43, own_l45, own_l46, own_l48, own_l57, own_l65, own_l90, own_l94, own_l95, own_l96, own_l97, own_l122, own_l124, own_l126, own_l128] at hc3 hc9 hc17 hc23 hc31 hc37 hc45 hc51 hc57 hc63 hc69 hc75 hc81
                            omega
                          · have pre158 : Go p e below s₁ (mkF m 84 #[.val (.int p1)] []) s₁ (entryFrame m #[(.int p1)] 1) := fun t k => pre157 t (XS.icmpNo X0.here hx rfl (hb hby dE_81) rfl (feq hc81).1 k)
                            have pre159 : Go p e below s₁ (mkF m 87 #[.val (.int p1)] [(.int (43 : Int32)), (.int p1)]) s₁ (entryFrame m #[(.int p1)] 1) := fun t k => pre158 t (by
                                show Steps p.tables e below (s₁.setTop (mkF m 84 #[.val (.int p1)] [])) t
                                refine XS.iloadN X0.here hx rfl (hb hby dE_84) rfl ?_
                                show Steps p.tables e below (s₁.setTop (mkF m 85 #[.val (.int p1)] [(.int p1)])) t
                                refine XS.bipush X0.here hx rfl (hb hby dE_85) ?_
                                exact k)
                            by_cases hc87 : p1 = (43 : Int32)
                            · exfalso
                              simp only [Int32.lt_iff_toInt_lt, ← Int32.toInt_inj, own_l0, own_l33, own_l35, own_l36, own_l37, own_l38, own_l39, own_l42, own_l43, own_l45, own_l46, own_l48, own_l57, own_l65, own_l90, own_l94, own_l95, own_l96, own_l97, own_l122, own_l124, own_l126, own_l128] at hc3 hc9 hc17 hc23 hc31 hc37 hc45 hc51 hc57 hc63 hc69 hc75 hc81 hc87
                              omega
                            · have pre160 : Go p e below s₁ (mkF m 90 #[.val (.int p1)] []) s₁ (entryFrame m #[(.int p1)] 1) := fun t k => pre159 t (XS.icmpNo X0.here hx rfl (hb hby dE_87) rfl (feq hc87).1 k)
                              have pre161 : Go p e below s₁ (mkF m 93 #[.val (.int p1)] [(.int (45 : Int32)), (.int p1)]) s₁ (entryFrame m #[(.int p1)] 1) := fun t k => pre160 t (by
                                  show Steps p.tables e below (s₁.setTop (mkF m 90 #[.val (.int p1)] [])) t
                                  refine XS.iloadN X0.here hx rfl (hb hby dE_90) rfl ?_
                                  show Steps p.tables e below (s₁.setTop (mkF m 91 #[.val (.int p1)] [(.int p1)])) t
                                  refine XS.bipush X0.here hx rfl (hb hby dE_91) ?_
                                  exact k)
                              by_cases hc93 : p1 = (45 : Int32)
                              · exfalso
                                simp only [Int32.lt_iff_toInt_lt, ← Int32.toInt_inj, own_l0, own_l33, own_l35, own_l36, own_l37, own_l38, own_l39, own_l42, own_l43, own_l45, own_l46, own_l48, own_l57, own_l65, own_l90, own_l94, own_l95, own_l96, own_l97, own_l122, own_l124, own_l126, own_l128] at hc3 hc9 hc17 hc23 hc31 hc37 hc45 hc51 hc57 hc63 hc69 hc75 hc81 hc87 hc93
                                omega
                              · have pre162 : Go p e below s₁ (mkF m 96 #[.val (.int p1)] []) s₁ (entryFrame m #[(.int p1)] 1) := fun t k => pre161 t (XS.icmpNo X0.here hx rfl (hb hby dE_93) rfl (feq hc93).1 k)
                                have pre163 : Go p e below s₁ (mkF m 99 #[.val (.int p1)] [(.int (46 : Int32)), (.int p1)]) s₁ (entryFrame m #[(.int p1)] 1) := fun t k => pre162 t (by
                                    show Steps p.tables e below (s₁.setTop (mkF m 96 #[.val (.int p1)] [])) t
                                    refine XS.iloadN X0.here hx rfl (hb hby dE_96) rfl ?_
                                    show Steps p.tables e below (s₁.setTop (mkF m 97 #[.val (.int p1)] [(.int p1)])) t
                                    refine XS.bipush X0.here hx rfl (hb hby dE_97) ?_
                                    exact k)
                                by_cases hc99 : p1 = (46 : Int32)
                                · exfalso
                                  simp only [Int32.lt_iff_toInt_lt, ← Int32.toInt_inj, own_l0, own_l33, own_l35, own_l36, own_l37, own_l38, own_l39, own_l42, own_l43, own_l45, own_l46, own_l48, own_l57, own_l65, own_l90, own_l94, own_l95, own_l96, own_l97, own_l122, own_l124, own_l126, own_l128] at hc3 hc9 hc17 hc23 hc31 hc37 hc45 hc51 hc57 hc63 hc69 hc75 hc81 hc87 hc93 hc99
                                  omega
                                · have pre164 : Go p e below s₁ (mkF m 102 #[.val (.int p1)] []) s₁ (entryFrame m #[(.int p1)] 1) := fun t k => pre163 t (XS.icmpNo X0.here hx rfl (hb hby dE_99) rfl (feq hc99).1 k)
                                  have pre165 : Go p e below s₁ (mkF m 105 #[.val (.int p1)] [(.int (94 : Int32)), (.int p1)]) s₁ (entryFrame m #[(.int p1)] 1) := fun t k => pre164 t (by
                                      show Steps p.tables e below (s₁.setTop (mkF m 102 #[.val (.int p1)] [])) t
                                      refine XS.iloadN X0.here hx rfl (hb hby dE_102) rfl ?_
                                      show Steps p.tables e below (s₁.setTop (mkF m 103 #[.val (.int p1)] [(.int p1)])) t
                                      refine XS.bipush X0.here hx rfl (hb hby dE_103) ?_
                                      exact k)
                                  by_cases hc105 : p1 = (94 : Int32)
                                  · exfalso
                                    simp only [Int32.lt_iff_toInt_lt, ← Int32.toInt_inj, own_l0, own_l33, own_l35, own_l36, own_l37, own_l38, own_l39, own_l42, own_l43, own_l45, own_l46, own_l48, own_l57, own_l65, own_l90, own_l94, own_l95, own_l96, own_l97, own_l122, own_l124, own_l126, own_l128] at hc3 hc9 hc17 hc23 hc31 hc37 hc45 hc51 hc57 hc63 hc69 hc75 hc81 hc87 hc93 hc99 hc105
                                    omega
                                  · have pre166 : Go p e below s₁ (mkF m 108 #[.val (.int p1)] []) s₁ (entryFrame m #[(.int p1)] 1) := fun t k => pre165 t (XS.icmpNo X0.here hx rfl (hb hby dE_105) rfl (feq hc105).1 k)
                                    have pre167 : Go p e below s₁ (mkF m 111 #[.val (.int p1)] [(.int (95 : Int32)), (.int p1)]) s₁ (entryFrame m #[(.int p1)] 1) := fun t k => pre166 t (by
                                        show Steps p.tables e below (s₁.setTop (mkF m 108 #[.val (.int p1)] [])) t
                                        refine XS.iloadN X0.here hx rfl (hb hby dE_108) rfl ?_
                                        show Steps p.tables e below (s₁.setTop (mkF m 109 #[.val (.int p1)] [(.int p1)])) t
                                        refine XS.bipush X0.here hx rfl (hb hby dE_109) ?_
                                        exact k)
                                    by_cases hc111 : p1 = (95 : Int32)
                                    · exfalso
                                      simp only [Int32.lt_iff_toInt_lt, ← Int32.toInt_inj, own_l0, own_l33, own_l35, own_l36, own_l37, own_l38, own_l39, own_l42, own_l43, own_l45, own_l46, own_l48, own_l57, own_l65, own_l90, own_l94, own_l95, own_l96, own_l97, own_l122, own_l124, own_l126, own_l128] at hc3 hc9 hc17 hc23 hc31 hc37 hc45 hc51 hc57 hc63 hc69 hc75 hc81 hc87 hc93 hc99 hc105 hc111
                                      omega
                                    · have pre168 : Go p e below s₁ (mkF m 114 #[.val (.int p1)] []) s₁ (entryFrame m #[(.int p1)] 1) := fun t k => pre167 t (XS.icmpNo X0.here hx rfl (hb hby dE_111) rfl (feq hc111).1 k)
                                      have pre169 : Go p e below s₁ (mkF m 117 #[.val (.int p1)] [(.int (96 : Int32)), (.int p1)]) s₁ (entryFrame m #[(.int p1)] 1) := fun t k => pre168 t (by
                                          show Steps p.tables e below (s₁.setTop (mkF m 114 #[.val (.int p1)] [])) t
                                          refine XS.iloadN X0.here hx rfl (hb hby dE_114) rfl ?_
                                          show Steps p.tables e below (s₁.setTop (mkF m 115 #[.val (.int p1)] [(.int p1)])) t
                                          refine XS.bipush X0.here hx rfl (hb hby dE_115) ?_
                                          exact k)
                                      by_cases hc117 : p1 = (96 : Int32)
                                      · exfalso
                                        simp only [Int32.lt_iff_toInt_lt, ← Int32.toInt_inj, own_l0, own_l33, own_l35, own_l36, own_l37, own_l38, own_l39, own_l42, own_l43, own_l45, own_l46, own_l48, own_l57, own_l65, own_l90, own_l94, own_l95, own_l96, own_l97, own_l122, own_l124, own_l126, own_l128] at hc3 hc9 hc17 hc23 hc31 hc37 hc45 hc51 hc57 hc63 hc69 hc75 hc81 hc87 hc93 hc99 hc105 hc111 hc117
                                        omega
                                      · have pre170 : Go p e below s₁ (mkF m 120 #[.val (.int p1)] []) s₁ (entryFrame m #[(.int p1)] 1) := fun t k => pre169 t (XS.icmpNo X0.here hx rfl (hb hby dE_117) rfl (feq hc117).1 k)
                                        have pre171 : Go p e below s₁ (mkF m 123 #[.val (.int p1)] [(.int (124 : Int32)), (.int p1)]) s₁ (entryFrame m #[(.int p1)] 1) := fun t k => pre170 t (by
                                            show Steps p.tables e below (s₁.setTop (mkF m 120 #[.val (.int p1)] [])) t
                                            refine XS.iloadN X0.here hx rfl (hb hby dE_120) rfl ?_
                                            show Steps p.tables e below (s₁.setTop (mkF m 121 #[.val (.int p1)] [(.int p1)])) t
                                            refine XS.bipush X0.here hx rfl (hb hby dE_121) ?_
                                            exact k)
                                        by_cases hc123 : p1 = (124 : Int32)
                                        · have pre172 : Go p e below s₁ (mkF m 132 #[.val (.int p1)] []) s₁ (entryFrame m #[(.int p1)] 1) := fun t k => pre171 t (XS.icmpYes X0.here hx rfl (pc0 := 123) (pc' := 132) rfl (hb hby dE_123) rfl (teq hc123).1 (by decide) (by decide) k)
                                          have pre173 : Go p e below s₁ (mkF m 137 #[.val (.int p1)] [(.int (1 : Int32))]) s₁ (entryFrame m #[(.int p1)] 1) := fun t k => pre172 t (by
                                              show Steps p.tables e below (s₁.setTop (mkF m 132 #[.val (.int p1)] [])) t
                                              refine XS.iconst X0.here hx rfl (hb hby dE_132) ?_
                                              show Steps p.tables e below (s₁.setTop (mkF m 133 #[.val (.int p1)] [(.int (1 : Int32))])) t
                                              refine XS.goto X0.here hx rfl (pc0 := 133) (pc' := 137) rfl (hb hby dE_133) (by decide) (by decide) ?_
                                              exact k)
                                          have hnr : Value.int (nar .boolean (1 : Int32)) = (.int (1 : Int32)) := by rfl
                                          obtain ⟨fs, hr, hrun, hended, hW, hsame⟩ := X0.leave (v := some (.int (1 : Int32))) (fun h => by rw [Bd.returns] at h; cases h)
                                          refine ⟨_, _, pre173 _ (retN X0 hx (t := .boolean) Bd.returns (by simp) (hb hby dE_137) (hnr ▸ hr)), hrun, hended, _, _, rfl, ?_, ⟨_, rfl⟩, hW, hsame.mono (by decide) (by decide)⟩
                                          show QE Z p1 r h0 n0 _ s₁.heap _
                                          rw [e0]
                                          exact ⟨by rw [← hR]; simp [expF, hc3, hc9, hc17, hc23, hc31, hc37, hc45, hc51, hc57, hc63, hc69, hc75, hc81, hc87, hc93, hc99, hc105, hc111, hc117, hc123], N0, rfl⟩
                                        · have pre174 : Go p e below s₁ (mkF m 126 #[.val (.int p1)] []) s₁ (entryFrame m #[(.int p1)] 1) := fun t k => pre171 t (XS.icmpNo X0.here hx rfl (hb hby dE_123) rfl (feq hc123).1 k)
                                          have pre175 : Go p e below s₁ (mkF m 129 #[.val (.int p1)] [(.int (126 : Int32)), (.int p1)]) s₁ (entryFrame m #[(.int p1)] 1) := fun t k => pre174 t (by
                                              show Steps p.tables e below (s₁.setTop (mkF m 126 #[.val (.int p1)] [])) t
                                              refine XS.iloadN X0.here hx rfl (hb hby dE_126) rfl ?_
                                              show Steps p.tables e below (s₁.setTop (mkF m 127 #[.val (.int p1)] [(.int p1)])) t
                                              refine XS.bipush X0.here hx rfl (hb hby dE_127) ?_
                                              exact k)
                                          by_cases hc129 : p1 = (126 : Int32)
                                          · have pre176 : Go p e below s₁ (mkF m 132 #[.val (.int p1)] []) s₁ (entryFrame m #[(.int p1)] 1) := fun t k => pre175 t (XS.icmpNo X0.here hx rfl (hb hby dE_129) rfl (teq hc129).2 k)
                                            have pre177 : Go p e below s₁ (mkF m 137 #[.val (.int p1)] [(.int (1 : Int32))]) s₁ (entryFrame m #[(.int p1)] 1) := fun t k => pre176 t (by
                                                show Steps p.tables e below (s₁.setTop (mkF m 132 #[.val (.int p1)] [])) t
                                                refine XS.iconst X0.here hx rfl (hb hby dE_132) ?_
                                                show Steps p.tables e below (s₁.setTop (mkF m 133 #[.val (.int p1)] [(.int (1 : Int32))])) t
                                                refine XS.goto X0.here hx rfl (pc0 := 133) (pc' := 137) rfl (hb hby dE_133) (by decide) (by decide) ?_
                                                exact k)
                                            have hnr : Value.int (nar .boolean (1 : Int32)) = (.int (1 : Int32)) := by rfl
                                            obtain ⟨fs, hr, hrun, hended, hW, hsame⟩ := X0.leave (v := some (.int (1 : Int32))) (fun h => by rw [Bd.returns] at h; cases h)
                                            refine ⟨_, _, pre177 _ (retN X0 hx (t := .boolean) Bd.returns (by simp) (hb hby dE_137) (hnr ▸ hr)), hrun, hended, _, _, rfl, ?_, ⟨_, rfl⟩, hW, hsame.mono (by decide) (by decide)⟩
                                            show QE Z p1 r h0 n0 _ s₁.heap _
                                            rw [e0]
                                            exact ⟨by rw [← hR]; simp [expF, hc3, hc9, hc17, hc23, hc31, hc37, hc45, hc51, hc57, hc63, hc69, hc75, hc81, hc87, hc93, hc99, hc105, hc111, hc117, hc123, hc129], N0, rfl⟩
                                          · have pre178 : Go p e below s₁ (mkF m 136 #[.val (.int p1)] []) s₁ (entryFrame m #[(.int p1)] 1) := fun t k => pre175 t (XS.icmpYes X0.here hx rfl (pc0 := 129) (pc' := 136) rfl (hb hby dE_129) rfl (feq hc129).2 (by decide) (by decide) k)
                                            have pre179 : Go p e below s₁ (mkF m 137 #[.val (.int p1)] [(.int (0 : Int32))]) s₁ (entryFrame m #[(.int p1)] 1) := fun t k => pre178 t (by
                                                show Steps p.tables e below (s₁.setTop (mkF m 136 #[.val (.int p1)] [])) t
                                                refine XS.iconst X0.here hx rfl (hb hby dE_136) ?_
                                                exact k)
                                            have hnr : Value.int (nar .boolean (0 : Int32)) = (.int (0 : Int32)) := by rfl
                                            obtain ⟨fs, hr, hrun, hended, hW, hsame⟩ := X0.leave (v := some (.int (0 : Int32))) (fun h => by rw [Bd.returns] at h; cases h)
                                            refine ⟨_, _, pre179 _ (retN X0 hx (t := .boolean) Bd.returns (by simp) (hb hby dE_137) (hnr ▸ hr)), hrun, hended, _, _, rfl, ?_, ⟨_, rfl⟩, hW, hsame.mono (by decide) (by decide)⟩
                                            show QE Z p1 r h0 n0 _ s₁.heap _
                                            rw [e0]
                                            exact ⟨by rw [← hR]; simp [expF, hc3, hc9, hc17, hc23, hc31, hc37, hc45, hc51, hc57, hc63, hc69, hc75, hc81, hc87, hc93, hc99, hc105, hc111, hc117, hc123, hc129], N0, rfl⟩
            · exfalso
              simp only [Int32.lt_iff_toInt_lt, ← Int32.toInt_inj, own_l0, own_l33, own_l35, own_l36, own_l37, own_l38, own_l39, own_l42, own_l43, own_l45, own_l46, own_l48, own_l57, own_l65, own_l90, own_l94, own_l95, own_l96, own_l97, own_l122, own_l124, own_l126, own_l128] at hc3 hc9 hc17 hc23 hc31 hc37
              omega
        · have pre180 : Go p e below s₁ (mkF m 26 #[.val (.int p1)] []) s₁ (entryFrame m #[(.int p1)] 1) := fun t k => pre139 t (XS.icmpNo X0.here hx rfl (hb hby dE_23) rfl (flt hc23).2.2.1 k)
          have pre181 : Go p e below s₁ (mkF m 27 #[.val (.int p1)] [(.int (1 : Int32))]) s₁ (entryFrame m #[(.int p1)] 1) := fun t k => pre180 t (by
              show Steps p.tables e below (s₁.setTop (mkF m 26 #[.val (.int p1)] [])) t
              refine XS.iconst X0.here hx rfl (hb hby dE_26) ?_
              exact k)
          have hnr : Value.int (nar .boolean (1 : Int32)) = (.int (1 : Int32)) := by rfl
          obtain ⟨fs, hr, hrun, hended, hW, hsame⟩ := X0.leave (v := some (.int (1 : Int32))) (fun h => by rw [Bd.returns] at h; cases h)
          refine ⟨_, _, pre181 _ (retN X0 hx (t := .boolean) Bd.returns (by simp) (hb hby dE_27) (hnr ▸ hr)), hrun, hended, _, _, rfl, ?_, ⟨_, rfl⟩, hW, hsame.mono (by decide) (by decide)⟩
          show QE Z p1 r h0 n0 _ s₁.heap _
          rw [e0]
          exact ⟨by rw [← hR]; simp [expF, hc3, hc9, hc17, hc23], N0, rfl⟩
    · have pre182 : Go p e below s₁ (mkF m 12 #[.val (.int p1)] []) s₁ (entryFrame m #[(.int p1)] 1) := fun t k => pre59 t (XS.icmpNo X0.here hx rfl (hb hby dE_9) rfl (flt hc9).2.2.1 k)
      have pre183 : Go p e below s₁ (mkF m 13 #[.val (.int p1)] [(.int (1 : Int32))]) s₁ (entryFrame m #[(.int p1)] 1) := fun t k => pre182 t (by
          show Steps p.tables e below (s₁.setTop (mkF m 12 #[.val (.int p1)] [])) t
          refine XS.iconst X0.here hx rfl (hb hby dE_12) ?_
          exact k)
      have hnr : Value.int (nar .boolean (1 : Int32)) = (.int (1 : Int32)) := by rfl
      obtain ⟨fs, hr, hrun, hended, hW, hsame⟩ := X0.leave (v := some (.int (1 : Int32))) (fun h => by rw [Bd.returns] at h; cases h)
      refine ⟨_, _, pre183 _ (retN X0 hx (t := .boolean) Bd.returns (by simp) (hb hby dE_13) (hnr ▸ hr)), hrun, hended, _, _, rfl, ?_, ⟨_, rfl⟩, hW, hsame.mono (by decide) (by decide)⟩
      show QE Z p1 r h0 n0 _ s₁.heap _
      rw [e0]
      exact ⟨by rw [← hR]; simp [expF, hc3, hc9], N0, rfl⟩
theorem own_eq (cl : Cell) (H : ∀ j : Int32, ¬ j < 0 → j < 128 → atv cl j = expF j) (c : Int32) : tokF cl c = expF c := by
  unfold tokF
  by_cases h1 : c < 0
  · rw [if_pos h1]; unfold expF
    simp only [Int32.lt_iff_toInt_lt, ← Int32.toInt_inj, own_l0, own_l33, own_l35, own_l36, own_l37, own_l38, own_l39, own_l42, own_l43, own_l45, own_l46, own_l48, own_l57, own_l65, own_l90, own_l94, own_l95, own_l96, own_l97, own_l122, own_l124, own_l126, own_l128] at h1 ⊢
    rw [if_neg (by omega), if_neg (by omega), if_neg (by omega), if_neg (by omega)]
    exact own_l0.symm
  · rw [if_neg h1]
    by_cases h2 : c < 128
    · rw [if_pos h2, H c h1 h2]; unfold expF; repeat' split
      all_goals simp_all
    · rw [if_neg h2]; unfold expF
      simp only [Int32.lt_iff_toInt_lt, ← Int32.toInt_inj, own_l0, own_l33, own_l35, own_l36, own_l37, own_l38, own_l39, own_l42, own_l43, own_l45, own_l46, own_l48, own_l57, own_l65, own_l90, own_l94, own_l95, own_l96, own_l97, own_l122, own_l124, own_l126, own_l128] at h2 ⊢
      rw [if_neg (by omega), if_neg (by omega), if_neg (by omega), if_neg (by omega)]
      exact own_l0.symm
theorem pnL : plainName "com/example/oxpecker/oxpecker/http/HttpInputIsTokenPinLaw" = true := by first | (simp [plainName, overriddenIn]; done) | decide +kernel
theorem pdL_0 : parseMethodDescriptor "(I)Z" = some ⟨[.int], some .boolean⟩ := by decide +kernel
theorem efL (m : MethodId) (p1 : Int32) (p2 : Int32) : entryFrame m #[(.int p1), (.int p2)] maxLocals = mkF m 0 #[.val (.int p1), .val (.int p2), .unset, .unset] [] := by first | (simp [entryFrame, mkF, argsToLocals, Value.category, maxLocals]; done) | rfl
def QL (Z : State) (p1 : Int32) (p2 : Int32) (ta : Addr) (cl : Cell) (h0 : Heap) (n0 : Nat) (v : Option Value) (h : Heap) (L : List Loc) : Prop := v = some (.int 1) ∧ Fr n0 L
set_option maxRecDepth 65536 in
set_option maxHeartbeats 40000000 in
theorem rmL (l : Launch) (Z : State) (a0 : Array Value) (hw : ∀ d ∈ tables_1, d.before a0 Z = true) (ws : List Jvm.Cond) (p1 : Int32) (p2 : Int32) (ta : Addr) (cl : Cell) (h0 : Heap) (n0 : Nat) (Z0 : n0 ≤ h0.size) (S0 : Sta Z h0 "com/example/oxpecker/oxpecker/http/HttpInput" "TOKEN" "[Z" (.ref ta)) (TB : Tab Z h0 ta cl .boolean 128) (HT : ∀ j : Int32, ¬ j < 0 → j < 128 → atv cl j = expF j) :
    MetFree l x (head1 (Jvm.Cond.code x code maxLocals ret :: ws) room_1) (fun a U => a = #[(.int p1), (.int p2)] ∧ Z.Warmed39 U.vm ∧ U.heap = h0) (fun _ _ _ _ _ => True) (fun _ U o U' => ∃ v L, o = .returned v ∧ QL Z p1 p2 ta cl h0 n0 v U'.heap L ∧ FrameEnd U o U' L room_1.cells room_1.slots) := by
  refine MetFree.of_bodySF (plainFor_of_name pnL) hisR ?_
  intro p e s m args below meth c s₁ Bd hml0 hP hK
  obtain ⟨rfl, hZ, hh⟩ := hP
  have hx := Bd.exec
  have hby := Bd.bytes
  have hml : c.maxLocals = 4 := hml0
  have hown : s.vm.findClass "com/example/oxpecker/oxpecker/http/HttpInputIsTokenPinLaw" = some m.cls := findClass_of_methodNamed Bd.named
  have hnm := (name_of_methodNamed Bd.named Bd.method).1
  have X0 : Stand p l e room_1 s m #[(.int p1), (.int p2)] below meth c s₁ [] 0 0 := Stand.of_body Bd
  have e0 : s₁.heap = h0 := by rw [← hh, Bd.state]; rfl
  have N0 := Fr.nil n0
  have pre0 : Go p e below s₁ (mkF m 0 #[.val (.int p1), .val (.int p2), .unset, .unset] []) s₁ (entryFrame m #[(.int p1), (.int p2)] maxLocals) := fun t k => castTop (efL m p1 p2) k
  have pre1 : Go p e below s₁ (mkF m 3 #[.val (.int p1), .val (.int p2), .unset, .unset] [(.int (p2 &&& (1 : Int32)))]) s₁ (entryFrame m #[(.int p1), (.int p2)] maxLocals) := fun t k => pre0 t (by
      show Steps p.tables e below (s₁.setTop (mkF m 0 #[.val (.int p1), .val (.int p2), .unset, .unset] [])) t
      refine XS.iloadN X0.here hx rfl (hb hby at_0) rfl ?_
      show Steps p.tables e below (s₁.setTop (mkF m 1 #[.val (.int p1), .val (.int p2), .unset, .unset] [(.int p2)])) t
      refine XS.iconst X0.here hx rfl (hb hby at_1) ?_
      show Steps p.tables e below (s₁.setTop (mkF m 2 #[.val (.int p1), .val (.int p2), .unset, .unset] [(.int (1 : Int32)), (.int p2)])) t
      refine XS.iand X0.here hx rfl (hb hby at_2) rfl ?_
      exact k)
  by_cases hc3 : (p2 &&& (1 : Int32)) = (0 : Int32)
  · have pre2 : Go p e below s₁ (mkF m 10 #[.val (.int p1), .val (.int p2), .unset, .unset] []) s₁ (entryFrame m #[(.int p1), (.int p2)] maxLocals) := fun t k => pre1 t (XS.ifYes X0.here hx rfl (pc0 := 3) (pc' := 10) rfl (hb hby at_3) rfl ((if0 _ _).trans (teq hc3).1) (by decide) (by decide) k)
    have pre3 : Go p e below s₁ (mkF m 13 #[.val (.int p1), .val (.int p2), .val (.int (0 : Int32)), .unset] [(.int (0 : Int32))]) s₁ (entryFrame m #[(.int p1), (.int p2)] maxLocals) := fun t k => pre2 t (by
        show Steps p.tables e below (s₁.setTop (mkF m 10 #[.val (.int p1), .val (.int p2), .unset, .unset] [])) t
        refine XS.iconst X0.here hx rfl (hb hby at_10) ?_
        show Steps p.tables e below (s₁.setTop (mkF m 11 #[.val (.int p1), .val (.int p2), .unset, .unset] [(.int (0 : Int32))])) t
        refine XS.istoreN X0.here hx rfl (hb hby at_11) rfl (l' := #[.val (.int p1), .val (.int p2), .val (.int (0 : Int32)), .unset]) rfl ?_
        show Steps p.tables e below (s₁.setTop (mkF m 12 #[.val (.int p1), .val (.int p2), .val (.int (0 : Int32)), .unset] [])) t
        refine XS.iloadN X0.here hx rfl (hb hby at_12) rfl ?_
        exact k)
    have pre4 : Go p e below s₁ (mkF m 20 #[.val (.int p1), .val (.int p2), .val (.int (0 : Int32)), .unset] []) s₁ (entryFrame m #[(.int p1), (.int p2)] maxLocals) := fun t k => pre3 t (XS.ifYes X0.here hx rfl (pc0 := 13) (pc' := 20) rfl (hb hby at_13) rfl ((if0 _ _).trans (teq (by decide : (0 : Int32) = (0 : Int32))).1) (by decide) (by decide) k)
    obtain ⟨c1, e_c1⟩ : ∃ z : Int32, z = (p1 % (200 : Int32)) := ⟨_, rfl⟩
    have pre5 : Go p e below s₁ (mkF m 27 #[.val (.int p1), .val (.int p2), .val (.int (0 : Int32)), .val (.int c1)] [(.int c1)]) s₁ (entryFrame m #[(.int p1), (.int p2)] maxLocals) := fun t k => pre4 t (by
        show Steps p.tables e below (s₁.setTop (mkF m 20 #[.val (.int p1), .val (.int p2), .val (.int (0 : Int32)), .unset] [])) t
        refine XS.iloadN X0.here hx rfl (hb hby at_20) rfl ?_
        show Steps p.tables e below (s₁.setTop (mkF m 21 #[.val (.int p1), .val (.int p2), .val (.int (0 : Int32)), .unset] [(.int p1)])) t
        refine XS.sipush X0.here hx rfl (hb hby at_21) ?_
        show Steps p.tables e below (s₁.setTop (mkF m 24 #[.val (.int p1), .val (.int p2), .val (.int (0 : Int32)), .unset] [(.int (200 : Int32)), (.int p1)])) t
        refine iremM X0 hx rfl (hb hby at_24) rfl (by decide) ?_
        show Steps p.tables e below (s₁.setTop (mkF m 25 #[.val (.int p1), .val (.int p2), .val (.int (0 : Int32)), .unset] [(.int (p1 % (200 : Int32)))])) t
        refine XS.istoreN X0.here hx rfl (hb hby at_25) rfl (l' := #[.val (.int p1), .val (.int p2), .val (.int (0 : Int32)), .val (.int c1)]) (by rw [e_c1]; rfl) ?_
        show Steps p.tables e below (s₁.setTop (mkF m 26 #[.val (.int p1), .val (.int p2), .val (.int (0 : Int32)), .val (.int c1)] [])) t
        refine XS.iloadN X0.here hx rfl (hb hby at_26) rfl ?_
        exact k)
    obtain ⟨_, _, ⟨T6, L6, k6, n6⟩, -, X6, ⟨Lc6, hQ6, l6, y6, z6⟩, st6⟩ := Jvm.LawKit.callS X0 hx (y := (⟨"com/example/oxpecker/oxpecker/http/HttpInput", "isToken", "(I)Z"⟩ : MethodName)) hown (mvT hZ (hw _ (List.mem_of_getElem? (i := 0) rfl))) (mvT hZ (hw _ (List.mem_of_getElem? (i := 1) rfl))) (mvT hZ (hw _ (List.mem_of_getElem? (i := 2) rfl))) (mvT hZ (hw _ (List.mem_of_getElem? (i := 3) rfl))) (by decide) (backOf (W := 0) (rmT l Z a0 hw [] c1 ta cl (tokF cl c1) h0 n0 Z0 S0 TB rfl) hZ (hw _ (List.mem_of_getElem? (i := 3) rfl)) (hw _ (List.mem_of_getElem? (i := 2) rfl)) (by decide) (by decide)) (g := (mkF m 27 #[.val (.int p1), .val (.int p2), .val (.int (0 : Int32)), .val (.int c1)] [(.int c1)])) rfl (by rw [hml]; rfl) (argsL := [(.int c1)]) (rest := []) (lenOf pdL_0 rfl) rfl (by show 2 * 0 + _ ≤ _; exact Nat.le_of_eq rfl) (hb hby at_27) (fun _ _ => ⟨rfl, e0, (by decide : 0 + 0 ≤ _), (by decide : 0 + 0 ≤ _)⟩)
    dsimp only [Pt.U, Pt.locs, Pt.cells, Pt.slots] at X6 l6 y6 z6 st6 hQ6
    subst l6 y6 z6
    obtain ⟨rfl, N6q, hq6⟩ := hQ6
    have N6 := Fr.app N0 N6q
    have pre7 : Go p e below T6 (mkF m 30 #[.val (.int p1), .val (.int p2), .val (.int (0 : Int32)), .val (.int c1)] [(.int (tokF cl c1))]) s₁ (entryFrame m #[(.int p1), (.int p2)] maxLocals) := fun t k => pre5 t (st6 t k)
    have e6 : T6.heap = h0 := hq6
    have pre8 : Go p e below T6 (mkF m 31 #[.val (.int p1), .val (.int p2), .val (.int (0 : Int32)), .val (.int c1)] [(.int c1), (.int (tokF cl c1))]) s₁ (entryFrame m #[(.int p1), (.int p2)] maxLocals) := fun t k => pre7 t (by
        show Steps p.tables e below (T6.setTop (mkF m 30 #[.val (.int p1), .val (.int p2), .val (.int (0 : Int32)), .val (.int c1)] [(.int (tokF cl c1))])) t
        refine XS.iloadN X6.here hx rfl (hb hby at_30) rfl ?_
        exact k)
    obtain ⟨_, _, ⟨T9, L9, k9, n9⟩, -, X9, ⟨Lc9, hQ9, l9, y9, z9⟩, st9⟩ := Jvm.LawKit.callS X6 hx (y := (⟨"com/example/oxpecker/oxpecker/http/HttpInputIsTokenPinLaw", "expectedToken", "(I)Z"⟩ : MethodName)) hown (mvT hZ (hw _ (List.mem_of_getElem? (i := 6) rfl))) (mvT hZ (hw _ (List.mem_of_getElem? (i := 7) rfl))) (mvT hZ (hw _ (List.mem_of_getElem? (i := 8) rfl))) (mvT hZ (hw _ (List.mem_of_getElem? (i := 9) rfl))) (by decide) (backOf (W := 1) (rmE l Z a0 hw [] c1 (tokF cl c1) h0 n0 Z0 (own_eq cl HT c1).symm) hZ (hw _ (List.mem_of_getElem? (i := 9) rfl)) (hw _ (List.mem_of_getElem? (i := 8) rfl)) (by decide) (by decide)) (g := (mkF m 31 #[.val (.int p1), .val (.int p2), .val (.int (0 : Int32)), .val (.int c1)] [(.int c1), (.int (tokF cl c1))])) rfl (by rw [hml]; rfl) (argsL := [(.int c1)]) (rest := [(.int (tokF cl c1))]) (lenOf pdL_0 rfl) rfl (by show 2 * 0 + _ ≤ _; exact Nat.le_of_eq rfl) (hb hby at_31) (fun _ _ => ⟨rfl, e6, (by decide : 0 + 0 ≤ _), (by decide : 0 + 0 ≤ _)⟩)
    dsimp only [Pt.U, Pt.locs, Pt.cells, Pt.slots] at X9 l9 y9 z9 st9 hQ9
    subst l9 y9 z9
    obtain ⟨rfl, N9q, hq9⟩ := hQ9
    have N9 := Fr.app N6 N9q
    have pre10 : Go p e below T9 (mkF m 34 #[.val (.int p1), .val (.int p2), .val (.int (0 : Int32)), .val (.int c1)] [(.int (tokF cl c1)), (.int (tokF cl c1))]) s₁ (entryFrame m #[(.int p1), (.int p2)] maxLocals) := fun t k => pre8 t (st9 t k)
    have e9 : T9.heap = h0 := hq9
    have pre11 : Go p e below T9 (mkF m 37 #[.val (.int p1), .val (.int p2), .val (.int (0 : Int32)), .val (.int c1)] []) s₁ (entryFrame m #[(.int p1), (.int p2)] maxLocals) := fun t k => pre10 t (XS.icmpNo X9.here hx rfl (hb hby at_34) rfl (teq (rfl : (tokF cl c1) = (tokF cl c1))).2 k)
    have pre12 : Go p e below T9 (mkF m 42 #[.val (.int p1), .val (.int p2), .val (.int (0 : Int32)), .val (.int c1)] [(.int (1 : Int32))]) s₁ (entryFrame m #[(.int p1), (.int p2)] maxLocals) := fun t k => pre11 t (by
        show Steps p.tables e below (T9.setTop (mkF m 37 #[.val (.int p1), .val (.int p2), .val (.int (0 : Int32)), .val (.int c1)] [])) t
        refine XS.iconst X9.here hx rfl (hb hby at_37) ?_
        show Steps p.tables e below (T9.setTop (mkF m 38 #[.val (.int p1), .val (.int p2), .val (.int (0 : Int32)), .val (.int c1)] [(.int (1 : Int32))])) t
        refine XS.goto X9.here hx rfl (pc0 := 38) (pc' := 42) rfl (hb hby at_38) (by decide) (by decide) ?_
        exact k)
    have hnr : Value.int (nar .boolean (1 : Int32)) = (.int (1 : Int32)) := by rfl
    obtain ⟨fs, hr, hrun, hended, hW, hsame⟩ := X9.leave (v := some (.int (1 : Int32))) (fun h => by rw [Bd.returns] at h; cases h)
    refine ⟨_, _, pre12 _ (retN X9 hx (t := .boolean) Bd.returns (by simp) (hb hby at_42) (hnr ▸ hr)), hrun, hended, _, _, rfl, ?_, ⟨_, rfl⟩, hW, hsame.mono (by decide) (by decide)⟩
    show QL Z p1 p2 ta cl h0 n0 _ T9.heap _
    rw [e9]
    exact ⟨rfl, N9⟩
  · have pre13 : Go p e below s₁ (mkF m 6 #[.val (.int p1), .val (.int p2), .unset, .unset] []) s₁ (entryFrame m #[(.int p1), (.int p2)] maxLocals) := fun t k => pre1 t (XS.ifNo X0.here hx rfl (hb hby at_3) rfl ((if0 _ _).trans (feq hc3).1) k)
    have pre14 : Go p e below s₁ (mkF m 13 #[.val (.int p1), .val (.int p2), .val (.int (1 : Int32)), .unset] [(.int (1 : Int32))]) s₁ (entryFrame m #[(.int p1), (.int p2)] maxLocals) := fun t k => pre13 t (by
        show Steps p.tables e below (s₁.setTop (mkF m 6 #[.val (.int p1), .val (.int p2), .unset, .unset] [])) t
        refine XS.iconst X0.here hx rfl (hb hby at_6) ?_
        show Steps p.tables e below (s₁.setTop (mkF m 7 #[.val (.int p1), .val (.int p2), .unset, .unset] [(.int (1 : Int32))])) t
        refine XS.goto X0.here hx rfl (pc0 := 7) (pc' := 11) rfl (hb hby at_7) (by decide) (by decide) ?_
        show Steps p.tables e below (s₁.setTop (mkF m 11 #[.val (.int p1), .val (.int p2), .unset, .unset] [(.int (1 : Int32))])) t
        refine XS.istoreN X0.here hx rfl (hb hby at_11) rfl (l' := #[.val (.int p1), .val (.int p2), .val (.int (1 : Int32)), .unset]) rfl ?_
        show Steps p.tables e below (s₁.setTop (mkF m 12 #[.val (.int p1), .val (.int p2), .val (.int (1 : Int32)), .unset] [])) t
        refine XS.iloadN X0.here hx rfl (hb hby at_12) rfl ?_
        exact k)
    have pre15 : Go p e below s₁ (mkF m 16 #[.val (.int p1), .val (.int p2), .val (.int (1 : Int32)), .unset] []) s₁ (entryFrame m #[(.int p1), (.int p2)] maxLocals) := fun t k => pre14 t (XS.ifNo X0.here hx rfl (hb hby at_13) rfl ((if0 _ _).trans (feq (by decide : ¬ ((1 : Int32) = (0 : Int32)))).1) k)
    obtain ⟨c1, e_c1⟩ : ∃ z : Int32, z = p1 := ⟨_, rfl⟩
    have pre16 : Go p e below s₁ (mkF m 27 #[.val (.int p1), .val (.int p2), .val (.int (1 : Int32)), .val (.int c1)] [(.int c1)]) s₁ (entryFrame m #[(.int p1), (.int p2)] maxLocals) := fun t k => pre15 t (by
        show Steps p.tables e below (s₁.setTop (mkF m 16 #[.val (.int p1), .val (.int p2), .val (.int (1 : Int32)), .unset] [])) t
        refine XS.iloadN X0.here hx rfl (hb hby at_16) rfl ?_
        show Steps p.tables e below (s₁.setTop (mkF m 17 #[.val (.int p1), .val (.int p2), .val (.int (1 : Int32)), .unset] [(.int p1)])) t
        refine XS.goto X0.here hx rfl (pc0 := 17) (pc' := 25) rfl (hb hby at_17) (by decide) (by decide) ?_
        show Steps p.tables e below (s₁.setTop (mkF m 25 #[.val (.int p1), .val (.int p2), .val (.int (1 : Int32)), .unset] [(.int p1)])) t
        refine XS.istoreN X0.here hx rfl (hb hby at_25) rfl (l' := #[.val (.int p1), .val (.int p2), .val (.int (1 : Int32)), .val (.int c1)]) (by rw [e_c1]; rfl) ?_
        show Steps p.tables e below (s₁.setTop (mkF m 26 #[.val (.int p1), .val (.int p2), .val (.int (1 : Int32)), .val (.int c1)] [])) t
        refine XS.iloadN X0.here hx rfl (hb hby at_26) rfl ?_
        exact k)
    obtain ⟨_, _, ⟨T17, L17, k17, n17⟩, -, X17, ⟨Lc17, hQ17, l17, y17, z17⟩, st17⟩ := Jvm.LawKit.callS X0 hx (y := (⟨"com/example/oxpecker/oxpecker/http/HttpInput", "isToken", "(I)Z"⟩ : MethodName)) hown (mvT hZ (hw _ (List.mem_of_getElem? (i := 0) rfl))) (mvT hZ (hw _ (List.mem_of_getElem? (i := 1) rfl))) (mvT hZ (hw _ (List.mem_of_getElem? (i := 2) rfl))) (mvT hZ (hw _ (List.mem_of_getElem? (i := 3) rfl))) (by decide) (backOf (W := 0) (rmT l Z a0 hw [] c1 ta cl (tokF cl c1) h0 n0 Z0 S0 TB rfl) hZ (hw _ (List.mem_of_getElem? (i := 3) rfl)) (hw _ (List.mem_of_getElem? (i := 2) rfl)) (by decide) (by decide)) (g := (mkF m 27 #[.val (.int p1), .val (.int p2), .val (.int (1 : Int32)), .val (.int c1)] [(.int c1)])) rfl (by rw [hml]; rfl) (argsL := [(.int c1)]) (rest := []) (lenOf pdL_0 rfl) rfl (by show 2 * 0 + _ ≤ _; exact Nat.le_of_eq rfl) (hb hby at_27) (fun _ _ => ⟨rfl, e0, (by decide : 0 + 0 ≤ _), (by decide : 0 + 0 ≤ _)⟩)
    dsimp only [Pt.U, Pt.locs, Pt.cells, Pt.slots] at X17 l17 y17 z17 st17 hQ17
    subst l17 y17 z17
    obtain ⟨rfl, N17q, hq17⟩ := hQ17
    have N17 := Fr.app N0 N17q
    have pre18 : Go p e below T17 (mkF m 30 #[.val (.int p1), .val (.int p2), .val (.int (1 : Int32)), .val (.int c1)] [(.int (tokF cl c1))]) s₁ (entryFrame m #[(.int p1), (.int p2)] maxLocals) := fun t k => pre16 t (st17 t k)
    have e17 : T17.heap = h0 := hq17
    have pre19 : Go p e below T17 (mkF m 31 #[.val (.int p1), .val (.int p2), .val (.int (1 : Int32)), .val (.int c1)] [(.int c1), (.int (tokF cl c1))]) s₁ (entryFrame m #[(.int p1), (.int p2)] maxLocals) := fun t k => pre18 t (by
        show Steps p.tables e below (T17.setTop (mkF m 30 #[.val (.int p1), .val (.int p2), .val (.int (1 : Int32)), .val (.int c1)] [(.int (tokF cl c1))])) t
        refine XS.iloadN X17.here hx rfl (hb hby at_30) rfl ?_
        exact k)
    obtain ⟨_, _, ⟨T20, L20, k20, n20⟩, -, X20, ⟨Lc20, hQ20, l20, y20, z20⟩, st20⟩ := Jvm.LawKit.callS X17 hx (y := (⟨"com/example/oxpecker/oxpecker/http/HttpInputIsTokenPinLaw", "expectedToken", "(I)Z"⟩ : MethodName)) hown (mvT hZ (hw _ (List.mem_of_getElem? (i := 6) rfl))) (mvT hZ (hw _ (List.mem_of_getElem? (i := 7) rfl))) (mvT hZ (hw _ (List.mem_of_getElem? (i := 8) rfl))) (mvT hZ (hw _ (List.mem_of_getElem? (i := 9) rfl))) (by decide) (backOf (W := 1) (rmE l Z a0 hw [] c1 (tokF cl c1) h0 n0 Z0 (own_eq cl HT c1).symm) hZ (hw _ (List.mem_of_getElem? (i := 9) rfl)) (hw _ (List.mem_of_getElem? (i := 8) rfl)) (by decide) (by decide)) (g := (mkF m 31 #[.val (.int p1), .val (.int p2), .val (.int (1 : Int32)), .val (.int c1)] [(.int c1), (.int (tokF cl c1))])) rfl (by rw [hml]; rfl) (argsL := [(.int c1)]) (rest := [(.int (tokF cl c1))]) (lenOf pdL_0 rfl) rfl (by show 2 * 0 + _ ≤ _; exact Nat.le_of_eq rfl) (hb hby at_31) (fun _ _ => ⟨rfl, e17, (by decide : 0 + 0 ≤ _), (by decide : 0 + 0 ≤ _)⟩)
    dsimp only [Pt.U, Pt.locs, Pt.cells, Pt.slots] at X20 l20 y20 z20 st20 hQ20
    subst l20 y20 z20
    obtain ⟨rfl, N20q, hq20⟩ := hQ20
    have N20 := Fr.app N17 N20q
    have pre21 : Go p e below T20 (mkF m 34 #[.val (.int p1), .val (.int p2), .val (.int (1 : Int32)), .val (.int c1)] [(.int (tokF cl c1)), (.int (tokF cl c1))]) s₁ (entryFrame m #[(.int p1), (.int p2)] maxLocals) := fun t k => pre19 t (st20 t k)
    have e20 : T20.heap = h0 := hq20
    have pre22 : Go p e below T20 (mkF m 37 #[.val (.int p1), .val (.int p2), .val (.int (1 : Int32)), .val (.int c1)] []) s₁ (entryFrame m #[(.int p1), (.int p2)] maxLocals) := fun t k => pre21 t (XS.icmpNo X20.here hx rfl (hb hby at_34) rfl (teq (rfl : (tokF cl c1) = (tokF cl c1))).2 k)
    have pre23 : Go p e below T20 (mkF m 42 #[.val (.int p1), .val (.int p2), .val (.int (1 : Int32)), .val (.int c1)] [(.int (1 : Int32))]) s₁ (entryFrame m #[(.int p1), (.int p2)] maxLocals) := fun t k => pre22 t (by
        show Steps p.tables e below (T20.setTop (mkF m 37 #[.val (.int p1), .val (.int p2), .val (.int (1 : Int32)), .val (.int c1)] [])) t
        refine XS.iconst X20.here hx rfl (hb hby at_37) ?_
        show Steps p.tables e below (T20.setTop (mkF m 38 #[.val (.int p1), .val (.int p2), .val (.int (1 : Int32)), .val (.int c1)] [(.int (1 : Int32))])) t
        refine XS.goto X20.here hx rfl (pc0 := 38) (pc' := 42) rfl (hb hby at_38) (by decide) (by decide) ?_
        exact k)
    have hnr : Value.int (nar .boolean (1 : Int32)) = (.int (1 : Int32)) := by rfl
    obtain ⟨fs, hr, hrun, hended, hW, hsame⟩ := X20.leave (v := some (.int (1 : Int32))) (fun h => by rw [Bd.returns] at h; cases h)
    refine ⟨_, _, pre23 _ (retN X20 hx (t := .boolean) Bd.returns (by simp) (hb hby at_42) (hnr ▸ hr)), hrun, hended, _, _, rfl, ?_, ⟨_, rfl⟩, hW, hsame.mono (by decide) (by decide)⟩
    show QL Z p1 p2 ta cl h0 n0 _ T20.heap _
    rw [e20]
    exact ⟨rfl, N20⟩
theorem own_len {args : Array Value} {s : State} {t : Term} {a : Addr} {cl : Cell} {k : Int32} (ev : t.eval args s none [] s = some (.ref a)) (hal : s.arrayAt? a = some cl) (h : (Jvm.Cond.eq (.length t) (.int k)).value args s none s [] = some true) : cl.slots.size < 2 ^ 31 ∧ cl.slots.size.toInt32 = k := by
  by_cases q : cl.slots.size < 2 ^ 31
  · exact ⟨q, gotT (Cond.eq_ints (len_f ev hal q) (Term.int_eval k)) h⟩
  · exfalso
    simp [Jvm.Cond.value, Term.eval, ev, hal, q] at h
theorem own_128 (j : Int32) (h1 : ¬ j < 0) (h2 : j < 128) : ∃ k : Fin 128, j = Int32.ofNat k.1 := by
  simp only [Int32.lt_iff_toInt_lt, own_l0, own_l128] at h1 h2
  refine ⟨⟨j.toInt.toNat, by omega⟩, ?_⟩
  rw [← Int32.toInt_inj, Int32.toInt_ofNat_of_lt (by show j.toInt.toNat < 2 ^ 31; omega)]
  show j.toInt = (j.toInt.toNat : Int)
  omega
set_option maxRecDepth 65536 in
set_option maxHeartbeats 40000000 in
theorem comes_1 {Post : Tables → Env → Array Value → State → Outcome → State → Prop} (hpost : ∀ tb e args s v u, (limb_1_1.after args s (.returned v) u = true ∧ limb_1_2.after args s (.returned v) u = true ∧ True) → FrameEnd s (.returned v) u (Jvm.fieldLocs frame_1_writes args s ++ Jvm.arrayLocs frame_1_arrays args s ++ Jvm.staticLocs frame_1_statics s) 0 0 → Post tb e args s (.returned v) u) :
    ArmFor flags0 classFile x code maxLocals ret World_1 tables_1 room_1 Calls_1 rest_1 Pre_1 Post := by
  intro l hfl _ _ p e ha hc hk s m args below hf hA hF happ hP
  obtain ⟨hcalls, hrest, hpre⟩ := hP
  obtain ⟨-, -, -, hnamed, -, -, -, hat⟩ := (Spec.applies_iff hf).mp happ
  obtain ⟨hg, hn⟩ := and_e (Cond.before_iff.mp (show (Jvm.Cond.and given_1 narrow_1).before args s = true from hpre))
  obtain ⟨hg0, hgr0⟩ := and_e hg
  obtain ⟨hg1, hg2⟩ := and_e hgr0
  obtain ⟨w0, w1, rfl⟩ : ∃ w0 w1 : Value, args = #[w0, w1] := by
    have hs : args.size = 2 := by simpa [Cond.value, given_1] using hg0
    obtain ⟨L⟩ := args
    match L, hs with
    | [w0, w1], _ => exact ⟨w0, w1, rfl⟩
  have hw := fun d (hd : d ∈ tables_1) => atoms_spec (ws := Jvm.Cond.code x code maxLocals ret :: tables_1) hat d (List.mem_cons_of_mem _ hd)
  have hfit : Fit s := fun {y c} hc i hi => by
    obtain ⟨ha, rfl⟩ := Array.getElem?_eq_some_iff.mp hc
    have q := List.all_eq_true.mp ((Array.all_eq_true_iff_forall_mem.mp hF) _ (Array.getElem_mem ha)) i (List.mem_range.mpr hi)
    simpa [Array.getElem?_eq_getElem hi] using q
  obtain ⟨x0, ei0⟩ := is_v hg1
  obtain rfl : w0 = (.int x0) := Option.some.inj ei0
  obtain ⟨x1, ei1⟩ := is_v hg2
  obtain rfl : w1 = (.int x1) := Option.some.inj ei1
  obtain ⟨nr0, nr1⟩ := and_e hn
  obtain ⟨nr2, nr3⟩ := and_e nr1
  obtain ⟨nr4, nr5⟩ := and_e nr3
  obtain ⟨nr6, nr7⟩ := and_e nr5
  obtain ⟨nr8, nr9⟩ := and_e nr7
  obtain ⟨nr10, nr11⟩ := and_e nr9
  obtain ⟨nr12, nr13⟩ := and_e nr11
  obtain ⟨nr14, nr15⟩ := and_e nr13
  obtain ⟨nr16, nr17⟩ := and_e nr15
  obtain ⟨nr18, nr19⟩ := and_e nr17
  obtain ⟨nr20, nr21⟩ := and_e nr19
  obtain ⟨nr22, nr23⟩ := and_e nr21
  obtain ⟨nr24, nr25⟩ := and_e nr23
  obtain ⟨nr26, nr27⟩ := and_e nr25
  obtain ⟨nr28, nr29⟩ := and_e nr27
  obtain ⟨nr30, nr31⟩ := and_e nr29
  obtain ⟨nr32, nr33⟩ := and_e nr31
  obtain ⟨nr34, nr35⟩ := and_e nr33
  obtain ⟨nr36, nr37⟩ := and_e nr35
  obtain ⟨nr38, nr39⟩ := and_e nr37
  obtain ⟨nr40, nr41⟩ := and_e nr39
  obtain ⟨nr42, nr43⟩ := and_e nr41
  obtain ⟨nr44, nr45⟩ := and_e nr43
  obtain ⟨nr46, nr47⟩ := and_e nr45
  obtain ⟨nr48, nr49⟩ := and_e nr47
  obtain ⟨ta, ev⟩ := arr_v nr0
  obtain ⟨cl, A⟩ := Arr.start ev nr0
  have S0 : Sta s s.heap "com/example/oxpecker/oxpecker/http/HttpInput" "TOKEN" "[Z" (.ref ta) := Sta.start ev (Or.inr ⟨(hw _ (List.mem_of_getElem? (i := 2) rfl)), (hw _ (List.mem_of_getElem? (i := 5) rfl))⟩)
  have hal : s.arrayAt? ta = some cl := Arr.fin (Vm.Alike.refl _) A
  have hsz : cl.slots.size < 2 ^ 31 ∧ cl.slots.size.toInt32 = 128 := own_len ev hal nr2
  have TB := Tab.start hfit A (Or.inr (Or.inl rfl)) hsz.1 hsz.2 (by decide)
  have hst : ∀ idx, (Jvm.Term.static "com/example/oxpecker/oxpecker/http/HttpInput" "TOKEN" "[Z").eval #[.int x0, .int x1] s none idx s = some (.ref ta) := fun idx => ev
  have hin : ∀ j : Int32, ¬ j < 0 → j < 128 → ¬ (j < 0 ∨ cl.slots.size ≤ j.toNatClampNeg) := fun j a b => inb_of TB.2.1 ⟨a, b⟩
  have Pnr4 := fun j h => own_all2 TB hst hal nr4 j h
  have Pnr6 := own_one TB hst hal (hin _ (by decide) (by decide)) nr6
  have Pnr8 := own_one TB hst hal (hin _ (by decide) (by decide)) nr8
  have Pnr10 := fun j h => own_all3 TB hst hal nr10 j h
  have Pnr12 := own_one TB hst hal (hin _ (by decide) (by decide)) nr12
  have Pnr14 := own_one TB hst hal (hin _ (by decide) (by decide)) nr14
  have Pnr16 := own_one TB hst hal (hin _ (by decide) (by decide)) nr16
  have Pnr18 := own_one TB hst hal (hin _ (by decide) (by decide)) nr18
  have Pnr20 := own_one TB hst hal (hin _ (by decide) (by decide)) nr20
  have Pnr22 := own_one TB hst hal (hin _ (by decide) (by decide)) nr22
  have Pnr24 := own_one TB hst hal (hin _ (by decide) (by decide)) nr24
  have Pnr26 := own_one TB hst hal (hin _ (by decide) (by decide)) nr26
  have Pnr28 := fun j h => own_all3 TB hst hal nr28 j h
  have Pnr30 := fun j h => own_all3 TB hst hal nr30 j h
  have Pnr32 := fun j h => own_all3 TB hst hal nr32 j h
  have Pnr34 := own_one TB hst hal (hin _ (by decide) (by decide)) nr34
  have Pnr36 := own_one TB hst hal (hin _ (by decide) (by decide)) nr36
  have Pnr38 := own_one TB hst hal (hin _ (by decide) (by decide)) nr38
  have Pnr40 := fun j h => own_all3 TB hst hal nr40 j h
  have Pnr42 := own_one TB hst hal (hin _ (by decide) (by decide)) nr42
  have Pnr44 := own_one TB hst hal (hin _ (by decide) (by decide)) nr44
  have Pnr46 := own_one TB hst hal (hin _ (by decide) (by decide)) nr46
  have Pnr48 := own_one TB hst hal (hin _ (by decide) (by decide)) nr48
  have Pnr49 := own_one TB hst hal (hin _ (by decide) (by decide)) nr49
  have HT : ∀ j : Int32, ¬ j < 0 → j < 128 → atv cl j = expF j := by
    intro j h1 h2
    obtain ⟨⟨k, hk⟩, rfl⟩ := own_128 j h1 h2
    show atv cl (Int32.ofNat k) = expF (Int32.ofNat k)
    clear h1 h2
    match k, hk with
    | 0, _ => exact ((Pnr4 0 (hin _ (by decide) (by decide))).resolve_left (by decide)).trans (by decide)
    | 1, _ => exact ((Pnr4 1 (hin _ (by decide) (by decide))).resolve_left (by decide)).trans (by decide)
    | 2, _ => exact ((Pnr4 2 (hin _ (by decide) (by decide))).resolve_left (by decide)).trans (by decide)
    | 3, _ => exact ((Pnr4 3 (hin _ (by decide) (by decide))).resolve_left (by decide)).trans (by decide)
    | 4, _ => exact ((Pnr4 4 (hin _ (by decide) (by decide))).resolve_left (by decide)).trans (by decide)
    | 5, _ => exact ((Pnr4 5 (hin _ (by decide) (by decide))).resolve_left (by decide)).trans (by decide)
    | 6, _ => exact ((Pnr4 6 (hin _ (by decide) (by decide))).resolve_left (by decide)).trans (by decide)
    | 7, _ => exact ((Pnr4 7 (hin _ (by decide) (by decide))).resolve_left (by decide)).trans (by decide)
    | 8, _ => exact ((Pnr4 8 (hin _ (by decide) (by decide))).resolve_left (by decide)).trans (by decide)
    | 9, _ => exact ((Pnr4 9 (hin _ (by decide) (by decide))).resolve_left (by decide)).trans (by decide)
    | 10, _ => exact ((Pnr4 10 (hin _ (by decide) (by decide))).resolve_left (by decide)).trans (by decide)
    | 11, _ => exact ((Pnr4 11 (hin _ (by decide) (by decide))).resolve_left (by decide)).trans (by decide)
    | 12, _ => exact ((Pnr4 12 (hin _ (by decide) (by decide))).resolve_left (by decide)).trans (by decide)
    | 13, _ => exact ((Pnr4 13 (hin _ (by decide) (by decide))).resolve_left (by decide)).trans (by decide)
    | 14, _ => exact ((Pnr4 14 (hin _ (by decide) (by decide))).resolve_left (by decide)).trans (by decide)
    | 15, _ => exact ((Pnr4 15 (hin _ (by decide) (by decide))).resolve_left (by decide)).trans (by decide)
    | 16, _ => exact ((Pnr4 16 (hin _ (by decide) (by decide))).resolve_left (by decide)).trans (by decide)
    | 17, _ => exact ((Pnr4 17 (hin _ (by decide) (by decide))).resolve_left (by decide)).trans (by decide)
    | 18, _ => exact ((Pnr4 18 (hin _ (by decide) (by decide))).resolve_left (by decide)).trans (by decide)
    | 19, _ => exact ((Pnr4 19 (hin _ (by decide) (by decide))).resolve_left (by decide)).trans (by decide)
    | 20, _ => exact ((Pnr4 20 (hin _ (by decide) (by decide))).resolve_left (by decide)).trans (by decide)
    | 21, _ => exact ((Pnr4 21 (hin _ (by decide) (by decide))).resolve_left (by decide)).trans (by decide)
    | 22, _ => exact ((Pnr4 22 (hin _ (by decide) (by decide))).resolve_left (by decide)).trans (by decide)
    | 23, _ => exact ((Pnr4 23 (hin _ (by decide) (by decide))).resolve_left (by decide)).trans (by decide)
    | 24, _ => exact ((Pnr4 24 (hin _ (by decide) (by decide))).resolve_left (by decide)).trans (by decide)
    | 25, _ => exact ((Pnr4 25 (hin _ (by decide) (by decide))).resolve_left (by decide)).trans (by decide)
    | 26, _ => exact ((Pnr4 26 (hin _ (by decide) (by decide))).resolve_left (by decide)).trans (by decide)
    | 27, _ => exact ((Pnr4 27 (hin _ (by decide) (by decide))).resolve_left (by decide)).trans (by decide)
    | 28, _ => exact ((Pnr4 28 (hin _ (by decide) (by decide))).resolve_left (by decide)).trans (by decide)
    | 29, _ => exact ((Pnr4 29 (hin _ (by decide) (by decide))).resolve_left (by decide)).trans (by decide)
    | 30, _ => exact ((Pnr4 30 (hin _ (by decide) (by decide))).resolve_left (by decide)).trans (by decide)
    | 31, _ => exact ((Pnr4 31 (hin _ (by decide) (by decide))).resolve_left (by decide)).trans (by decide)
    | 32, _ => exact ((Pnr4 32 (hin _ (by decide) (by decide))).resolve_left (by decide)).trans (by decide)
    | 33, _ => exact Pnr6.trans (by decide)
    | 34, _ => exact Pnr8.trans (by decide)
    | 35, _ => exact (((Pnr10 35 (hin _ (by decide) (by decide))).resolve_left (by decide)).resolve_left (by decide)).trans (by decide)
    | 36, _ => exact (((Pnr10 36 (hin _ (by decide) (by decide))).resolve_left (by decide)).resolve_left (by decide)).trans (by decide)
    | 37, _ => exact (((Pnr10 37 (hin _ (by decide) (by decide))).resolve_left (by decide)).resolve_left (by decide)).trans (by decide)
    | 38, _ => exact (((Pnr10 38 (hin _ (by decide) (by decide))).resolve_left (by decide)).resolve_left (by decide)).trans (by decide)
    | 39, _ => exact (((Pnr10 39 (hin _ (by decide) (by decide))).resolve_left (by decide)).resolve_left (by decide)).trans (by decide)
    | 40, _ => exact Pnr12.trans (by decide)
    | 41, _ => exact Pnr14.trans (by decide)
    | 42, _ => exact Pnr16.trans (by decide)
    | 43, _ => exact Pnr18.trans (by decide)
    | 44, _ => exact Pnr20.trans (by decide)
    | 45, _ => exact Pnr22.trans (by decide)
    | 46, _ => exact Pnr24.trans (by decide)
    | 47, _ => exact Pnr26.trans (by decide)
    | 48, _ => exact (((Pnr28 48 (hin _ (by decide) (by decide))).resolve_left (by decide)).resolve_left (by decide)).trans (by decide)
    | 49, _ => exact (((Pnr28 49 (hin _ (by decide) (by decide))).resolve_left (by decide)).resolve_left (by decide)).trans (by decide)
    | 50, _ => exact (((Pnr28 50 (hin _ (by decide) (by decide))).resolve_left (by decide)).resolve_left (by decide)).trans (by decide)
    | 51, _ => exact (((Pnr28 51 (hin _ (by decide) (by decide))).resolve_left (by decide)).resolve_left (by decide)).trans (by decide)
    | 52, _ => exact (((Pnr28 52 (hin _ (by decide) (by decide))).resolve_left (by decide)).resolve_left (by decide)).trans (by decide)
    | 53, _ => exact (((Pnr28 53 (hin _ (by decide) (by decide))).resolve_left (by decide)).resolve_left (by decide)).trans (by decide)
    | 54, _ => exact (((Pnr28 54 (hin _ (by decide) (by decide))).resolve_left (by decide)).resolve_left (by decide)).trans (by decide)
    | 55, _ => exact (((Pnr28 55 (hin _ (by decide) (by decide))).resolve_left (by decide)).resolve_left (by decide)).trans (by decide)
    | 56, _ => exact (((Pnr28 56 (hin _ (by decide) (by decide))).resolve_left (by decide)).resolve_left (by decide)).trans (by decide)
    | 57, _ => exact (((Pnr28 57 (hin _ (by decide) (by decide))).resolve_left (by decide)).resolve_left (by decide)).trans (by decide)
    | 58, _ => exact (((Pnr30 58 (hin _ (by decide) (by decide))).resolve_left (by decide)).resolve_left (by decide)).trans (by decide)
    | 59, _ => exact (((Pnr30 59 (hin _ (by decide) (by decide))).resolve_left (by decide)).resolve_left (by decide)).trans (by decide)
    | 60, _ => exact (((Pnr30 60 (hin _ (by decide) (by decide))).resolve_left (by decide)).resolve_left (by decide)).trans (by decide)
    | 61, _ => exact (((Pnr30 61 (hin _ (by decide) (by decide))).resolve_left (by decide)).resolve_left (by decide)).trans (by decide)
    | 62, _ => exact (((Pnr30 62 (hin _ (by decide) (by decide))).resolve_left (by decide)).resolve_left (by decide)).trans (by decide)
    | 63, _ => exact (((Pnr30 63 (hin _ (by decide) (by decide))).resolve_left (by decide)).resolve_left (by decide)).trans (by decide)
    | 64, _ => exact (((Pnr30 64 (hin _ (by decide) (by decide))).resolve_left (by decide)).resolve_left (by decide)).trans (by decide)
    | 65, _ => exact (((Pnr32 65 (hin _ (by decide) (by decide))).resolve_left (by decide)).resolve_left (by decide)).trans (by decide)
    | 66, _ => exact (((Pnr32 66 (hin _ (by decide) (by decide))).resolve_left (by decide)).resolve_left (by decide)).trans (by decide)
    | 67, _ => exact (((Pnr32 67 (hin _ (by decide) (by decide))).resolve_left (by decide)).resolve_left (by decide)).trans (by decide)
    | 68, _ => exact (((Pnr32 68 (hin _ (by decide) (by decide))).resolve_left (by decide)).resolve_left (by decide)).trans (by decide)
    | 69, _ => exact (((Pnr32 69 (hin _ (by decide) (by decide))).resolve_left (by decide)).resolve_left (by decide)).trans (by decide)
    | 70, _ => exact (((Pnr32 70 (hin _ (by decide) (by decide))).resolve_left (by decide)).resolve_left (by decide)).trans (by decide)
    | 71, _ => exact (((Pnr32 71 (hin _ (by decide) (by decide))).resolve_left (by decide)).resolve_left (by decide)).trans (by decide)
    | 72, _ => exact (((Pnr32 72 (hin _ (by decide) (by decide))).resolve_left (by decide)).resolve_left (by decide)).trans (by decide)
    | 73, _ => exact (((Pnr32 73 (hin _ (by decide) (by decide))).resolve_left (by decide)).resolve_left (by decide)).trans (by decide)
    | 74, _ => exact (((Pnr32 74 (hin _ (by decide) (by decide))).resolve_left (by decide)).resolve_left (by decide)).trans (by decide)
    | 75, _ => exact (((Pnr32 75 (hin _ (by decide) (by decide))).resolve_left (by decide)).resolve_left (by decide)).trans (by decide)
    | 76, _ => exact (((Pnr32 76 (hin _ (by decide) (by decide))).resolve_left (by decide)).resolve_left (by decide)).trans (by decide)
    | 77, _ => exact (((Pnr32 77 (hin _ (by decide) (by decide))).resolve_left (by decide)).resolve_left (by decide)).trans (by decide)
    | 78, _ => exact (((Pnr32 78 (hin _ (by decide) (by decide))).resolve_left (by decide)).resolve_left (by decide)).trans (by decide)
    | 79, _ => exact (((Pnr32 79 (hin _ (by decide) (by decide))).resolve_left (by decide)).resolve_left (by decide)).trans (by decide)
    | 80, _ => exact (((Pnr32 80 (hin _ (by decide) (by decide))).resolve_left (by decide)).resolve_left (by decide)).trans (by decide)
    | 81, _ => exact (((Pnr32 81 (hin _ (by decide) (by decide))).resolve_left (by decide)).resolve_left (by decide)).trans (by decide)
    | 82, _ => exact (((Pnr32 82 (hin _ (by decide) (by decide))).resolve_left (by decide)).resolve_left (by decide)).trans (by decide)
    | 83, _ => exact (((Pnr32 83 (hin _ (by decide) (by decide))).resolve_left (by decide)).resolve_left (by decide)).trans (by decide)
    | 84, _ => exact (((Pnr32 84 (hin _ (by decide) (by decide))).resolve_left (by decide)).resolve_left (by decide)).trans (by decide)
    | 85, _ => exact (((Pnr32 85 (hin _ (by decide) (by decide))).resolve_left (by decide)).resolve_left (by decide)).trans (by decide)
    | 86, _ => exact (((Pnr32 86 (hin _ (by decide) (by decide))).resolve_left (by decide)).resolve_left (by decide)).trans (by decide)
    | 87, _ => exact (((Pnr32 87 (hin _ (by decide) (by decide))).resolve_left (by decide)).resolve_left (by decide)).trans (by decide)
    | 88, _ => exact (((Pnr32 88 (hin _ (by decide) (by decide))).resolve_left (by decide)).resolve_left (by decide)).trans (by decide)
    | 89, _ => exact (((Pnr32 89 (hin _ (by decide) (by decide))).resolve_left (by decide)).resolve_left (by decide)).trans (by decide)
    | 90, _ => exact (((Pnr32 90 (hin _ (by decide) (by decide))).resolve_left (by decide)).resolve_left (by decide)).trans (by decide)
    | 91, _ => exact Pnr34.trans (by decide)
    | 92, _ => exact Pnr36.trans (by decide)
    | 93, _ => exact Pnr38.trans (by decide)
    | 94, _ => exact (((Pnr40 94 (hin _ (by decide) (by decide))).resolve_left (by decide)).resolve_left (by decide)).trans (by decide)
    | 95, _ => exact (((Pnr40 95 (hin _ (by decide) (by decide))).resolve_left (by decide)).resolve_left (by decide)).trans (by decide)
    | 96, _ => exact (((Pnr40 96 (hin _ (by decide) (by decide))).resolve_left (by decide)).resolve_left (by decide)).trans (by decide)
    | 97, _ => exact (((Pnr40 97 (hin _ (by decide) (by decide))).resolve_left (by decide)).resolve_left (by decide)).trans (by decide)
    | 98, _ => exact (((Pnr40 98 (hin _ (by decide) (by decide))).resolve_left (by decide)).resolve_left (by decide)).trans (by decide)
    | 99, _ => exact (((Pnr40 99 (hin _ (by decide) (by decide))).resolve_left (by decide)).resolve_left (by decide)).trans (by decide)
    | 100, _ => exact (((Pnr40 100 (hin _ (by decide) (by decide))).resolve_left (by decide)).resolve_left (by decide)).trans (by decide)
    | 101, _ => exact (((Pnr40 101 (hin _ (by decide) (by decide))).resolve_left (by decide)).resolve_left (by decide)).trans (by decide)
    | 102, _ => exact (((Pnr40 102 (hin _ (by decide) (by decide))).resolve_left (by decide)).resolve_left (by decide)).trans (by decide)
    | 103, _ => exact (((Pnr40 103 (hin _ (by decide) (by decide))).resolve_left (by decide)).resolve_left (by decide)).trans (by decide)
    | 104, _ => exact (((Pnr40 104 (hin _ (by decide) (by decide))).resolve_left (by decide)).resolve_left (by decide)).trans (by decide)
    | 105, _ => exact (((Pnr40 105 (hin _ (by decide) (by decide))).resolve_left (by decide)).resolve_left (by decide)).trans (by decide)
    | 106, _ => exact (((Pnr40 106 (hin _ (by decide) (by decide))).resolve_left (by decide)).resolve_left (by decide)).trans (by decide)
    | 107, _ => exact (((Pnr40 107 (hin _ (by decide) (by decide))).resolve_left (by decide)).resolve_left (by decide)).trans (by decide)
    | 108, _ => exact (((Pnr40 108 (hin _ (by decide) (by decide))).resolve_left (by decide)).resolve_left (by decide)).trans (by decide)
    | 109, _ => exact (((Pnr40 109 (hin _ (by decide) (by decide))).resolve_left (by decide)).resolve_left (by decide)).trans (by decide)
    | 110, _ => exact (((Pnr40 110 (hin _ (by decide) (by decide))).resolve_left (by decide)).resolve_left (by decide)).trans (by decide)
    | 111, _ => exact (((Pnr40 111 (hin _ (by decide) (by decide))).resolve_left (by decide)).resolve_left (by decide)).trans (by decide)
    | 112, _ => exact (((Pnr40 112 (hin _ (by decide) (by decide))).resolve_left (by decide)).resolve_left (by decide)).trans (by decide)
    | 113, _ => exact (((Pnr40 113 (hin _ (by decide) (by decide))).resolve_left (by decide)).resolve_left (by decide)).trans (by decide)
    | 114, _ => exact (((Pnr40 114 (hin _ (by decide) (by decide))).resolve_left (by decide)).resolve_left (by decide)).trans (by decide)
    | 115, _ => exact (((Pnr40 115 (hin _ (by decide) (by decide))).resolve_left (by decide)).resolve_left (by decide)).trans (by decide)
    | 116, _ => exact (((Pnr40 116 (hin _ (by decide) (by decide))).resolve_left (by decide)).resolve_left (by decide)).trans (by decide)
    | 117, _ => exact (((Pnr40 117 (hin _ (by decide) (by decide))).resolve_left (by decide)).resolve_left (by decide)).trans (by decide)
    | 118, _ => exact (((Pnr40 118 (hin _ (by decide) (by decide))).resolve_left (by decide)).resolve_left (by decide)).trans (by decide)
    | 119, _ => exact (((Pnr40 119 (hin _ (by decide) (by decide))).resolve_left (by decide)).resolve_left (by decide)).trans (by decide)
    | 120, _ => exact (((Pnr40 120 (hin _ (by decide) (by decide))).resolve_left (by decide)).resolve_left (by decide)).trans (by decide)
    | 121, _ => exact (((Pnr40 121 (hin _ (by decide) (by decide))).resolve_left (by decide)).resolve_left (by decide)).trans (by decide)
    | 122, _ => exact (((Pnr40 122 (hin _ (by decide) (by decide))).resolve_left (by decide)).resolve_left (by decide)).trans (by decide)
    | 123, _ => exact Pnr42.trans (by decide)
    | 124, _ => exact Pnr44.trans (by decide)
    | 125, _ => exact Pnr46.trans (by decide)
    | 126, _ => exact Pnr48.trans (by decide)
    | 127, _ => exact Pnr49.trans (by decide)
    | n + 128, h => exact absurd h (by omega)
  obtain ⟨n, o, h1, h2, h3, _, L, rfl, ⟨rfl, N⟩, hq⟩ := rmL l s _ hw tables_1 x0 x1 ta cl s.heap s.heap.size (Nat.le_refl _) S0 TB HT p e ha hc hk s m _ below hf ((Spec.applies_iff_loose hf).mp happ).1 ⟨rfl, State.Warmed39.refl s, rfl⟩ trivial
  refine ⟨n, _, h1, h2, h3, hpost _ _ _ _ _ _ ⟨Cond.after_iff.mpr rfl, Cond.after_iff.mpr (eq_i res_at (Term.int_eval (1)) rfl), trivial⟩ ⟨hq.1, hq.2.1, (hq.2.2.sift fun y hy => Or.inr (N y hy)).mono (by decide) (by decide)⟩⟩
theorem main_1_1 : Claimed_1_1 := comes_1 fun _ _ _ _ _ _ h hF => ⟨h.1, hF⟩
theorem main_1_2 : Claimed_1_2 := comes_1 fun _ _ _ _ _ _ h hF => ⟨h.2.1, hF⟩
end Jvm.Pilot.@@N@@
namespace Jvm.Pilot.@@N@@
open Jvm Jvm.ClassFile Sem Op Lib Jvm.Free Jvm.Stand Jvm.Pilot.@@N@@.Jvm.D
/-! MADE BY PROGRAM (witnessworld.py) out of the Statement's table words and the real class files: 11 classes; the members and pool entries that the words name. The judged class is class 1, her method 2. -/
namespace start1
open Jvm.ClassFile
def u (s : String) : CpInfo := .utf8 (stringToUtf16 s)
/-- a pool by its gaps: so many unusable entries, then the entry; so many at the end -/
def gap : Nat → List CpInfo → List CpInfo
  | 0, r => r
  | n + 1, r => .unusable :: gap n r
def poolList (es : List (Nat × CpInfo)) (last : Nat) : List CpInfo := es.foldr (fun e r => gap e.1 (e.2 :: r)) (gap last [])
def pool (es : List (Nat × CpInfo)) (last : Nat) : Array CpInfo := ⟨poolList es last⟩
def fileOf (pool : Array CpInfo) (this : Nat) (attrs : Array Attribute := #[]) (ms : Array MethodInfo := #[]) (fl : Nat := 33) (sup : Nat := 0) (ifs : Array Nat := #[]) (fds : Array FieldInfo := #[]) : ClassFile where
  minorVersion := 0
  majorVersion := 65
  constantPool := pool
  accessFlags := fl
  thisClass := this
  superClass := sup
  interfaces := ifs
  fields := fds
  methods := ms
  attributes := attrs
def plain (name : String) (sup : Option ClassId) : Class where
  name := name
  kind := .ordinary
  loader := none
  accessFlags := 33
  super := sup
  interfaces := #[]
  cf := none
  fields := #[]
  methods := #[]
  instanceTypes := #[]
  staticTypes := #[]
  resolved := #[]
  callSites := []
  init := .initialized
  statics := none
  mirror := none

def pool0 : Array CpInfo := pool [(5, u "<init>"), (0, u "()V"), (1, .class_ 10), (1, u "java/lang/Object")] 113

def k0m0 : Method := { name := "<init>", desc := "()V", sig := { parameters := [], returnType := none }, accessFlags := 1, code := none }
/-- java/lang/Object -/
def k0 : Class := { plain "java/lang/Object" none with
  accessFlags := 33
  interfaces := #[]
  cf := some (fileOf pool0 8 #[] #[{ accessFlags := 1, nameIndex := 5, descriptorIndex := 6, attributes := #[] }] 33 0 #[] #[])
  fields := #[]
  methods := #[k0m0]
  instanceTypes := #[]
  staticTypes := #[]
  resolved := Array.replicate 124 none
  statics := none }

def pool1 : Array CpInfo := pool [(2, .class_ 4), (1, u "java/lang/Object"), (0, u "<init>"), (0, u "()V"), (0, .methodref 8 9), (0, .class_ 10), (0, .nameAndType 11 12), (0, u "com/example/oxpecker/oxpecker/http/HttpInput"), (0, u "isToken"), (0, u "(I)Z"), (0, .methodref 14 15), (0, .class_ 16), (0, .nameAndType 17 12), (0, u "com/example/oxpecker/oxpecker/http/HttpInputIsTokenPinLaw"), (0, u "expectedToken"), (3, u "law"), (0, u "(II)Z")] 2

def k1m0 : Method := { name := "<init>", desc := "()V", sig := { parameters := [], returnType := none }, accessFlags := 2, code := none }
def k1c1 : Code := { maxStack := 2, maxLocals := 1, code := method_2_code, exceptionTable := #[], attributes := #[] }
def k1m1 : Method := { name := "expectedToken", desc := "(I)Z", sig := { parameters := [.int], returnType := some .boolean }, accessFlags := 10, code := some k1c1 }
def k1c2 : Code := { maxStack := 2, maxLocals := 4, code := code, exceptionTable := #[], attributes := #[] }
def k1m2 : Method := { name := "law", desc := "(II)Z", sig := { parameters := [.int, .int], returnType := some .boolean }, accessFlags := 9, code := some k1c2 }
/-- com/example/oxpecker/oxpecker/http/HttpInputIsTokenPinLaw -/
def k1 : Class := { plain "com/example/oxpecker/oxpecker/http/HttpInputIsTokenPinLaw" (some 0) with
  accessFlags := 49
  interfaces := #[]
  cf := some (fileOf pool1 14 #[] #[{ accessFlags := 2, nameIndex := 5, descriptorIndex := 6, attributes := #[] }, { accessFlags := 10, nameIndex := 17, descriptorIndex := 12, attributes := #[] }, { accessFlags := 9, nameIndex := 21, descriptorIndex := 22, attributes := #[] }] 49 2 #[] #[])
  fields := #[]
  methods := #[k1m0, k1m1, k1m2]
  instanceTypes := #[]
  staticTypes := #[]
  resolved := Array.replicate 25 none
  statics := none }

def pool2 : Array CpInfo := pool [(2, .class_ 4), (1, u "java/lang/Object"), (5, .class_ 12), (1, u "com/example/oxpecker/oxpecker/http/HttpInput"), (0, u "held"), (0, u "J"), (2, u "in"), (0, u "Ljava/io/InputStream;"), (2, u "buffers"), (0, u "Lcom/example/oxpecker/oxpecker/http/Buffers;"), (2, u "received"), (21, u "buffer"), (0, u "[B"), (2, u "limit"), (0, u "I"), (6, u "position"), (8, u "(I)Z"), (19, u "isToken"), (0, .class_ 90), (0, u "com/example/oxpecker/oxpecker/http/HttpInput$HeadException"), (33, .class_ 125), (0, u "com/example/oxpecker/oxpecker/http/HttpInput$Head"), (53, .class_ 180), (0, u "com/example/oxpecker/oxpecker/http/HttpInput$FixedBody"), (3, .class_ 185), (0, u "com/example/oxpecker/oxpecker/http/HttpInput$ChunkedBody"), (3, .class_ 190), (0, u "com/example/oxpecker/oxpecker/http/HttpInput$RestBody"), (10, u "WORDS"), (0, u "Ljava/lang/invoke/VarHandle;"), (59, .fieldref 10 263), (0, .nameAndType 264 265), (0, u "TOKEN"), (0, u "[Z"), (40, u "CHUNK_LINE_LIMIT"), (2, u "CHUNK_SIZE_LIMIT"), (2, u "TRAILER_LIMIT"), (1, u "ONES"), (0, u "SPACES"), (0, u "DELETES"), (0, u "HIGH_BITS"), (28, .class_ 347), (0, u "com/example/oxpecker/oxpecker/http/HttpInput$Body")] 23

def k2c0 : Code := { maxStack := 2, maxLocals := 1, code := prog_11_method_22_code, exceptionTable := #[], attributes := #[] }
def k2m0 : Method := { name := "isToken", desc := "(I)Z", sig := { parameters := [.int], returnType := some .boolean }, accessFlags := 8, code := some k2c0 }
/-- com/example/oxpecker/oxpecker/http/HttpInput -/
def k2 : Class := { plain "com/example/oxpecker/oxpecker/http/HttpInput" (some 0) with
  accessFlags := 48
  interfaces := #[]
  cf := some (fileOf pool2 10 #[.nestMembers #[189, 184, 179, 346, 89, 124]] #[{ accessFlags := 8, nameIndex := 88, descriptorIndex := 68, attributes := #[] }] 48 2 #[] #[{ accessFlags := 26, nameIndex := 306, descriptorIndex := 52, attributes := #[] }, { accessFlags := 26, nameIndex := 309, descriptorIndex := 14, attributes := #[] }, { accessFlags := 26, nameIndex := 312, descriptorIndex := 52, attributes := #[] }, { accessFlags := 26, nameIndex := 264, descriptorIndex := 265, attributes := #[] }, { accessFlags := 26, nameIndex := 201, descriptorIndex := 202, attributes := #[] }, { accessFlags := 26, nameIndex := 314, descriptorIndex := 14, attributes := #[] }, { accessFlags := 26, nameIndex := 315, descriptorIndex := 14, attributes := #[] }, { accessFlags := 26, nameIndex := 316, descriptorIndex := 14, attributes := #[] }, { accessFlags := 26, nameIndex := 317, descriptorIndex := 14, attributes := #[] }, { accessFlags := 18, nameIndex := 17, descriptorIndex := 18, attributes := #[] }, { accessFlags := 18, nameIndex := 21, descriptorIndex := 22, attributes := #[] }, { accessFlags := 2, nameIndex := 47, descriptorIndex := 48, attributes := #[] }, { accessFlags := 2, nameIndex := 59, descriptorIndex := 52, attributes := #[] }, { accessFlags := 2, nameIndex := 51, descriptorIndex := 52, attributes := #[] }, { accessFlags := 2, nameIndex := 25, descriptorIndex := 14, attributes := #[] }, { accessFlags := 2, nameIndex := 13, descriptorIndex := 14, attributes := #[] }])
  fields := #[{ name := "CHUNK_LINE_LIMIT", type := .int, accessFlags := 26, slot := 0, constantValue := 0 }, { name := "CHUNK_SIZE_LIMIT", type := .long, accessFlags := 26, slot := 1, constantValue := 0 }, { name := "TRAILER_LIMIT", type := .int, accessFlags := 26, slot := 2, constantValue := 0 }, { name := "TOKEN", type := (.array .boolean), accessFlags := 26, slot := 3, constantValue := 0 }, { name := "WORDS", type := (.object "java/lang/invoke/VarHandle"), accessFlags := 26, slot := 4, constantValue := 0 }, { name := "ONES", type := .long, accessFlags := 26, slot := 5, constantValue := 0 }, { name := "SPACES", type := .long, accessFlags := 26, slot := 6, constantValue := 0 }, { name := "DELETES", type := .long, accessFlags := 26, slot := 7, constantValue := 0 }, { name := "HIGH_BITS", type := .long, accessFlags := 26, slot := 8, constantValue := 0 }, { name := "in", type := (.object "java/io/InputStream"), accessFlags := 18, slot := 0, constantValue := 0 }, { name := "buffers", type := (.object "com/example/oxpecker/oxpecker/http/Buffers"), accessFlags := 18, slot := 1, constantValue := 0 }, { name := "buffer", type := (.array .byte), accessFlags := 2, slot := 2, constantValue := 0 }, { name := "position", type := .int, accessFlags := 2, slot := 3, constantValue := 0 }, { name := "limit", type := .int, accessFlags := 2, slot := 4, constantValue := 0 }, { name := "received", type := .long, accessFlags := 2, slot := 5, constantValue := 0 }, { name := "held", type := .long, accessFlags := 2, slot := 6, constantValue := 0 }]
  methods := #[k2m0]
  instanceTypes := #[(.object "java/io/InputStream"), (.object "com/example/oxpecker/oxpecker/http/Buffers"), (.array .byte), .int, .int, .long, .long]
  staticTypes := #[.int, .long, .int, (.array .boolean), (.object "java/lang/invoke/VarHandle"), .long, .long, .long, .long]
  resolved := Array.replicate 371 none
  statics := some 0 }

def pool3 : Array CpInfo := pool [(1, u "java/lang/Cloneable"), (0, .class_ 1), (0, u "java/lang/Object"), (0, .class_ 3)] 3

/-- java/lang/Cloneable -/
def k3 : Class := { plain "java/lang/Cloneable" (some 0) with
  accessFlags := 1537
  interfaces := #[]
  cf := some (fileOf pool3 2 #[] #[] 1537 4 #[] #[])
  fields := #[]
  methods := #[]
  instanceTypes := #[]
  staticTypes := #[]
  resolved := Array.replicate 8 none
  statics := none }

def pool4 : Array CpInfo := pool [(1, u "java/io/Serializable"), (0, .class_ 1), (0, u "java/lang/Object"), (0, .class_ 3)] 3

/-- java/io/Serializable -/
def k4 : Class := { plain "java/io/Serializable" (some 0) with
  accessFlags := 1537
  interfaces := #[]
  cf := some (fileOf pool4 2 #[] #[] 1537 4 #[] #[])
  fields := #[]
  methods := #[]
  instanceTypes := #[]
  staticTypes := #[]
  resolved := Array.replicate 8 none
  statics := none }

/-- the primitive boolean -/
def k5 : Class := { plain "boolean" none with kind := .primitive 'Z', accessFlags := 0x411 }
/-- [Z -/
def k6 : Class := { plain "[Z" (some 0) with kind := .array 5 .boolean, interfaces := #[3, 4], accessFlags := 1041 }

/-- the primitive byte -/
def k7 : Class := { plain "byte" none with kind := .primitive 'B', accessFlags := 0x411 }
/-- [B -/
def k8 : Class := { plain "[B" (some 0) with kind := .array 7 .byte, interfaces := #[3, 4], accessFlags := 1041 }

/-- the primitive int -/
def k9 : Class := { plain "int" none with kind := .primitive 'I', accessFlags := 0x411 }
/-- [I -/
def k10 : Class := { plain "[I" (some 0) with kind := .array 9 .int, interfaces := #[3, 4], accessFlags := 1041 }

def heap : Heap := #[{ cls := 2, slots := #[.int 0, .long 0, .int 0, .ref 1, .null, .long 0, .long 0, .long 0, .long 0], vm := .statics 2 },
  { cls := 6, slots := #[.int 0, .int 0, .int 0, .int 0, .int 0, .int 0, .int 0, .int 0, .int 0, .int 0, .int 0, .int 0, .int 0, .int 0, .int 0, .int 0, .int 0, .int 0, .int 0, .int 0, .int 0, .int 0, .int 0, .int 0, .int 0, .int 0, .int 0, .int 0, .int 0, .int 0, .int 0, .int 0, .int 0, .int 1, .int 0, .int 1, .int 1, .int 1, .int 1, .int 1, .int 0, .int 0, .int 1, .int 1, .int 0, .int 1, .int 1, .int 0, .int 1, .int 1, .int 1, .int 1, .int 1, .int 1, .int 1, .int 1, .int 1, .int 1, .int 0, .int 0, .int 0, .int 0, .int 0, .int 0, .int 0, .int 1, .int 1, .int 1, .int 1, .int 1, .int 1, .int 1, .int 1, .int 1, .int 1, .int 1, .int 1, .int 1, .int 1, .int 1, .int 1, .int 1, .int 1, .int 1, .int 1, .int 1, .int 1, .int 1, .int 1, .int 1, .int 1, .int 0, .int 0, .int 0, .int 1, .int 1, .int 1, .int 1, .int 1, .int 1, .int 1, .int 1, .int 1, .int 1, .int 1, .int 1, .int 1, .int 1, .int 1, .int 1, .int 1, .int 1, .int 1, .int 1, .int 1, .int 1, .int 1, .int 1, .int 1, .int 1, .int 1, .int 1, .int 1, .int 0, .int 1, .int 0, .int 1, .int 0], vm := .none }]
def classes : Array Class := #[k0, k1, k2, k3, k4, k5, k6, k7, k8, k9, k10]
def interned : List (Array UInt16 × Addr) := []
def slotsUsed : Nat := 137
def theMethod : MethodId := ⟨1, 2⟩
def args0 : Array Value := #[.int 5, .int 7]
def aboutOver (below : List Frame) : State where
  vm := { classes := classes, interned := interned.toArray }
  heap := heap
  slotsUsed := slotsUsed
  threads := #[{ frames := .invoking theMethod args0 :: below }]
def below0 : List Frame := [.native { method := ⟨0, 0⟩, args := #[] }]
def about1 : State := aboutOver below0
def p0 : Program := .bare "" "" ""
def e0 : Env := launch0.env 0 0 0
theorem w_frames : about1.frames = Frame.invoking theMethod args0 :: below0 := rfl
set_option maxRecDepth 65536 in
theorem w_args : argsFit about1.vm theMethod args0 = true := by decide +kernel
set_option maxRecDepth 65536 in
theorem w_heap : heapFits about1 = true := by decide +kernel
set_option maxRecDepth 65536 in
theorem w_runnable : about1.curStatus? = some .runnable := by decide +kernel
set_option maxRecDepth 65536 in
theorem w_alone : about1.alone = true := by decide +kernel
set_option maxRecDepth 65536 in
theorem w_named : about1.methodNamed? x = some theMethod := by decide +kernel
set_option maxRecDepth 65536 in
theorem w_hears : about1.hears theMethod below0 = true := by decide +kernel
set_option maxRecDepth 65536 in
theorem w_ripe : about1.ripe theMethod args0 below0 = true := by decide +kernel
theorem w_running : about1.status = .running := rfl
set_option maxRecDepth 65536 in
theorem w_room : about1.hasRoom e0.platform room_1 = true :=
  launch0.hasRoom_least _ room_1 (by decide +kernel) (by decide +kernel) (by decide +kernel) (by decide +kernel) (by decide +kernel) (by decide +kernel)
theorem allAtoms_all (ts : List Jvm.Cond) (a : Array Jvm.Value) (st : Jvm.State) : (allAtoms ts).before a st = ts.all (fun c => c.before a st) := by
  induction ts with
  | nil => rfl
  | cons c t ih =>
    show (Jvm.Cond.and c (allAtoms t)).before a st = _
    rw [Jvm.Cond.before_and, ih, List.all_cons]
def words1 : List Jvm.Cond := Jvm.Cond.code x code maxLocals ret :: tables_1
/-- a 'code' word, met by the world's own term for the bytes: nothing is compared byte by byte -/
theorem code_word {y : MethodName} {bytes : ByteArray} {mx : Nat} {rt : Option FieldType} {a : Array Value} {s : State} {m : MethodId} {meth : Method} {c : Code} (h1 : s.methodNamed? y = some m) (h2 : s.vm.method? m = some meth) (h3 : meth.code = some c) (h4 : c.code = bytes)
    (h5 : (c.maxLocals == mx && c.exceptionTable.isEmpty && decide (c.maxStack ≤ mostOperands) && decide (meth.sig.returnType = rt) && !meth.locks && decide (parseMethodDescriptor y.desc = some meth.sig)) = true) : (Jvm.Cond.code y bytes mx rt).before a s = true := by
  simp only [Bool.and_eq_true, beq_iff_eq, Bool.not_eq_true', decide_eq_true_eq] at h5
  obtain ⟨⟨⟨⟨⟨g1, g2⟩, g3⟩, g4⟩, g5⟩, g6⟩ := h5
  simp [Cond.before, Cond.holds, Cond.value, h1, h2, h3, h4, g1, g2, g3, g4, g5, g6]
def isCode : Jvm.Cond → Bool
  | .code _ _ _ _ => true
  | _ => false
theorem all_split {L : List Jvm.Cond} {P : Jvm.Cond → Bool} (h1 : L.all (fun c => isCode c || P c) = true) (h2 : ∀ c ∈ L.filter isCode, P c = true) : L.all P = true := by
  refine List.all_eq_true.mpr fun c hc => ?_
  have h := List.all_eq_true.mp h1 c hc
  rcases Bool.eq_false_or_eq_true (isCode c) with hi | hi
  · exact h2 c (List.mem_filter.mpr ⟨hc, hi⟩)
  · simpa [hi] using h
set_option maxRecDepth 65536 in
theorem w_c0 : (Jvm.Cond.code x code maxLocals ret).before args0 about1 = true := code_word (m := ⟨1, 2⟩) (meth := k1m2) (c := k1c2) (by decide +kernel) rfl rfl rfl (by decide +kernel)
set_option maxRecDepth 65536 in
theorem w_c1 : (Jvm.Cond.code ({ cls := "com/example/oxpecker/oxpecker/http/HttpInput", name := "isToken", desc := "(I)Z" } : Jvm.MethodName) prog_11_method_22_code (1 : Nat) (Option.some Jvm.ClassFile.FieldType.boolean)).before args0 about1 = true := code_word (m := ⟨2, 0⟩) (meth := k2m0) (c := k2c0) (by decide +kernel) rfl rfl rfl (by decide +kernel)
set_option maxRecDepth 65536 in
theorem w_c2 : (Jvm.Cond.code ({ cls := "com/example/oxpecker/oxpecker/http/HttpInputIsTokenPinLaw", name := "expectedToken", desc := "(I)Z" } : Jvm.MethodName) method_2_code (1 : Nat) (Option.some Jvm.ClassFile.FieldType.boolean)).before args0 about1 = true := code_word (m := ⟨1, 1⟩) (meth := k1m1) (c := k1c1) (by decide +kernel) rfl rfl rfl (by decide +kernel)
def codes1 : List Jvm.Cond := [Jvm.Cond.code x code maxLocals ret, Jvm.Cond.code ({ cls := "com/example/oxpecker/oxpecker/http/HttpInput", name := "isToken", desc := "(I)Z" } : Jvm.MethodName) prog_11_method_22_code (1 : Nat) (Option.some Jvm.ClassFile.FieldType.boolean), Jvm.Cond.code ({ cls := "com/example/oxpecker/oxpecker/http/HttpInputIsTokenPinLaw", name := "expectedToken", desc := "(I)Z" } : Jvm.MethodName) method_2_code (1 : Nat) (Option.some Jvm.ClassFile.FieldType.boolean)]
set_option maxRecDepth 65536 in
theorem codes_eq : words1.filter isCode = codes1 := rfl
theorem w_codes : ∀ c ∈ words1.filter isCode, c.before args0 about1 = true := by
  rw [codes_eq]
  intro c hc
  simp only [codes1, List.mem_cons, List.not_mem_nil, or_false] at hc
  rcases hc with rfl | rfl | rfl
  · exact w_c0
  · exact w_c1
  · exact w_c2
set_option maxRecDepth 65536 in
theorem w_t1 : words1.all (fun c => isCode c || c.before args0 about1) = true := by decide +kernel
theorem w_tables : (allAtoms (Jvm.Cond.code x code maxLocals ret :: tables_1)).before args0 about1 = true := by
  rw [allAtoms_all]
  show words1.all (fun c => c.before args0 about1) = true
  refine all_split ?_ w_codes
  rw [w_t1]
set_option maxRecDepth 65536 in
theorem w_case : (Jvm.Cond.and given_1 narrow_1).before args0 about1 = true := by decide +kernel
theorem w_applies : (headSpec (Jvm.Cond.code x code maxLocals ret :: tables_1) room_1).applies x e0.platform about1 = true :=
  (Spec.applies_iff w_frames).mpr ⟨w_running, w_runnable, w_alone, w_named, w_hears, w_ripe, w_room, w_tables⟩
theorem atStart : AtStart classFile x code maxLocals ret World_1 tables_1 room_1 Calls_1 rest_1 Pre_1 launch0 p0 e0 about1 theMethod args0 below0 :=
  ⟨lists_1, trivial, launch0.admits_env _ _ _, launch0.least_env, fairChoices_fair.cas, fairChoices_fair.clock, w_frames, w_args, w_heap, w_applies, trivial, trivial, w_case⟩
end start1
theorem witness_1 : WitnessClaimed_1 := ⟨start1.p0, start1.e0, start1.about1, start1.theMethod, start1.args0, start1.below0, start1.atStart⟩
end Jvm.Pilot.@@N@@
