import JvmDerived
import JvmDerived.Pilot.@@N@@Statement
import JvmDerived.Pilot.@@N@@Code
set_option linter.unusedVariables false
set_option linter.unusedSimpArgs false

namespace Jvm.Pilot.@@N@@
open Jvm Jvm.ClassFile Sem Op Lib Jvm.Free Jvm.Stand Jvm.LawKit Jvm.RoadKit Bundle Jvm.Pilot.@@N@@.Jvm.D
abbrev HW (a0 : Array Value) (Z : State) : Prop := ∀ d ∈ tables_1, d.before a0 Z = true
abbrev MF (l : Launch) (Z : State) (y : MethodName) (b : ByteArray) (ml : Nat) (rt : Option FieldType) (ws : List Jvm.Cond) (rm : Room) (A : Array Value) (h0 : Heap) (Q : Option Value → Heap → List Loc → Prop) : Prop := MetFree l y (head1 (Jvm.Cond.code y b ml rt :: ws) rm) (fun a U => a = A ∧ Z.Warmed39 U.vm ∧ U.heap = h0) (fun _ _ _ _ _ => True) (fun _ U o U' => ∃ v L, o = .returned v ∧ Q v U'.heap L ∧ FrameEnd U o U' L rm.cells rm.slots)
/-- the end of a walk -/
theorem fin1 {p : Program} {l : Launch} {e : Env} {R : Room} {s : State} {m : MethodId} {args : Array Value} {bl : List Frame} {meth : Method} {c : Code} {T : State} {locs : List Loc} {cells slots : Nat} (X : Stand p l e R s m args bl meth c T locs cells slots) {v : Option Value} (hv : meth.sig.returnType = none → v = none) (hlk : meth.locks = false) {g : JFrame} {s1 : State} {C D : Nat} {Q : Option Value → Heap → List Loc → Prop} (hc : cells ≤ C) (hd : slots ≤ D) (hQ : Q v T.heap locs)
    (hs : ∀ fs, (∀ (f : JFrame) (acts : List Action), f.method = m → f.locked = none → f.entered = [] → (doReturn e (T.setTop f) acts v).1 = T.setFrames fs) → Steps p.tables e bl (s1.setTop g) (T.setFrames fs)) : ∃ s₂ o, Steps p.tables e bl (s1.setTop g) s₂ ∧ s₂.status = .running ∧ Ended s₂ bl o ∧ ∃ v L, o = .returned v ∧ Q v s₂.heap L ∧ FrameEnd s o s₂ L C D := by
  obtain ⟨fs, hr, hrun, hended, hW, hsame⟩ := X.leave hv hlk
  exact ⟨_, _, hs fs hr, hrun, hended, _, _, rfl, hQ, ⟨_, rfl⟩, hW, hsame.mono hc hd⟩
theorem wl {a b : Nat} (h : Nat.ble a b = true) : a ≤ b := Nat.le_of_ble_eq_true h
theorem mW (i : Nat) {d : Jvm.Cond} (h : tables_1[i]? = some d) : d ∈ tables_1 := List.mem_of_getElem? h
/-- from the frame g' at S' the run comes to the frame g at S -/
abbrev Go (p : Program) (e : Env) (below : List Frame) (S : State) (g : JFrame) (S' : State) (g' : JFrame) : Prop := ∀ t, Steps p.tables e below (S.setTop g) t → Steps p.tables e below (S'.setTop g') t

abbrev mN0 : MethodName := ⟨"java/lang/Record", "<init>", "()V"⟩
abbrev mN1 : MethodName := ⟨"java/util/Objects", "requireNonNull", "(Ljava/lang/Object;Ljava/lang/String;)Ljava/lang/Object;"⟩
abbrev mN2 : MethodName := ⟨"com/example/uni_repos/unirepos/geo/Metrics", "kilometers", "()D"⟩
abbrev mN3 : MethodName := ⟨"java/lang/Double", "isInfinite", "(D)Z"⟩
abbrev mN4 : MethodName := ⟨"com/example/uni_repos/unirepos/geo/Distance", "<init>", "(DLcom/example/uni_repos/unirepos/geo/Metrics;)V"⟩
abbrev mN5 : MethodName := ⟨"com/example/uni_repos/unirepos/geo/Distance", "inKilometers", "()D"⟩
open Jvm.Free.Fl (NoNaN64 Fin64 Nz64 Mag64)
theorem own_fld {args : Array Value} {s : State} {t : Term} {x : Addr} {C n d : String} {k : Int32} (ht : t.eval args s none [] s = some (.ref x)) (h : (Jvm.Cond.eq (.field t C n d) (.int k)).value args s none s [] = some true) : Fld s s.heap x C n d (.int k) := by
  obtain ⟨y, z, h1, h2, h3, -⟩ := cmp_v (Or.inl h)
  have h2' : z = .int k := by simpa [Term.eval] using h2.symm
  subst h2'
  obtain ⟨u, rfl⟩ : ∃ u, y = .int u := by cases y <;> simp [Kin, Value.isRef] at h3 ⊢
  have h4 : u = k := by simpa [Jvm.Cond.value, h1, h2] using h
  subst h4
  exact Fld.start ((fld_at ht).symm.trans h1)

theorem own_sgn {x y : FP.Core.Datum} (f : FP.Core.Fmt) (h : FP.Core.quotient f x y ≠ .nan) : FP.Core.sgn (FP.Core.quotient f x y) = (FP.Core.sgn x != FP.Core.sgn y) := by
  cases x <;> cases y <;> simp only [FP.Core.quotient] at h ⊢ <;> first | exact absurd rfl h | rfl | skip
  split
  · split
    · rename_i h1 h2; rw [if_pos h1, if_pos h2] at h; exact absurd rfl h
    · rfl
  · rw [FP.Core.sgn_roundRatio]; rfl
def quo (m : Int64) (d : Int32) : UInt64 := FP.ddiv (FP.l2d m) (FP.i2d d)
theorem own_nn {m : Int64} {d : Int32} (hd : 0 < d.toInt) : NoNaN64 (quo m d) :=
  Jvm.Free.Fl.ddiv_out (Jvm.Free.Fl.l2d_fin m).noNaN (Jvm.Free.Fl.i2d_fin d) (Jvm.Free.Fl.i2d_nz (fun q => by subst q; exact absurd hd (by decide)))
theorem own_nan {x : UInt64} (h : NoNaN64 x) : FP.Core.val64 x ≠ .nan := by
  have q := Jvm.Free.Fl.noNaN64_no.mp h
  intro e
  have : FP.Core.dIsNaN x = true := by show decide (FP.Core.val64 x = .nan) = true; simp [e]
  exact absurd (q.symm.trans this) (by decide)
theorem own_pos {m : Int64} {d : Int32} (hm : 0 ≤ m.toInt) (hd : 0 < d.toInt) : ¬ cmpValue (FP.dcmp (quo m d) 0) .l < 0 := by
  have n := own_nan (own_nn (m := m) hd)
  have e : FP.Core.val64 (quo m d) = FP.Core.quotient FP.Core.b64 (FP.Core.val64 (FP.Core.l2d m)) (FP.Core.val64 (FP.Core.i2d d)) := FP.Core.val64_ddiv _ _
  have s1 := own_sgn FP.Core.b64 (e ▸ n)
  rw [← e] at s1
  obtain ⟨c1, q1, g1⟩ := FP.Core.l2d_shape m
  have g2 : FP.Core.sgn (FP.Core.val64 (FP.Core.i2d d)) = decide (d.toInt < 0) := by
    rw [FP.Core.val64_i2d]; show FP.Core.sgn (FP.Core.roundRatio _ (decide (d.toInt < 0)) _ 1 0) = _; exact FP.Core.sgn_roundRatio _ _ _ _ _
  rw [g1, g2] at s1
  have s2 : FP.Core.sgn (FP.Core.val64 (quo m d)) = false := by
    rw [s1]
    have a1 : decide (m.toInt < 0) = false := by simp; omega
    have a2 : decide (d.toInt < 0) = false := by simp; omega
    rw [a1, a2]; rfl
  rw [FP.Core.sgn_bits n] at s2
  have s3 : ¬ 2 ^ 63 ≤ (quo m d).toNat := by simpa using s2
  have k : FP.dcmp (quo m d) 0 = some (compare (FP.Core.dkey (quo m d)) (FP.Core.dkey 0)) := FP.Core.dcmp_key n (by decide +kernel)
  have k0 : FP.Core.dkey 0 = 0 := by decide
  have k1 : FP.Core.dkey (quo m d) = ((quo m d).toNat : Int) := by unfold FP.Core.dkey; rw [if_neg s3]
  have k2 : ¬ FP.Core.dkey (quo m d) < FP.Core.dkey 0 := by rw [k0, k1]; omega
  have lt : FP.dcmp (quo m d) 0 = some .lt ↔ FP.Core.dkey (quo m d) < FP.Core.dkey 0 := FP.Core.dcmp_lt_key n (by decide +kernel)
  intro h
  rw [k] at h lt
  cases hc : compare (FP.Core.dkey (quo m d)) (FP.Core.dkey 0) <;> rw [hc] at h lt
  · exact k2 (lt.mp rfl)
  · exact absurd h (by decide)
  · exact absurd h (by decide)
theorem own_mag {m : Int64} {d : Int32} (hd : 0 < d.toInt) : Mag64 1089 (quo m d) := by
  have hne : d.toInt64 ≠ 0 := fun q => by
    have q2 := congrArg Int64.toInt q
    rw [Int32.toInt_toInt64] at q2
    have e : (0 : Int64).toInt = 0 := by decide
    omega
  have b : Big64 1023 (FP.i2d d) := by rw [i2d_w]; exact l2d_big hne
  have q := ddiv_mag (Jvm.Free.Fl.l2d_mag m) b (by decide) (by decide)
  have e : 1088 + 1021 - 1023 + 3 = 1089 := by decide
  rw [e] at q; exact q
theorem own_fin {m : Int64} {d : Int32} {K : UInt64} (hd : 0 < d.toInt) (hK : Mag64 1024 K) : Fin64 (FP.dmul (quo m d) K) := by
  have q := Jvm.Free.Fl.dmul_mag (own_mag (m := m) hd) hK (by decide) (by decide)
  have e : 1089 + 1024 - 1025 + 3 = 1091 := by decide
  rw [e] at q
  exact q.fin (by decide)
theorem own_K1 : Mag64 1024 4609926660211357856 := by unfold Mag64; decide
theorem own_K2 : Mag64 1024 4607182418800017408 := by unfold Mag64; decide
theorem own_one {m : Int64} {d : Int32} (hd : 0 < d.toInt) : FP.dmul (quo m d) 4607182418800017408 = quo m d := FP.Core.dmul_one (own_nan (own_nn hd))
theorem own_fldD {args : Array Value} {s : State} {t : Term} {x : Addr} {C n d : String} {k : Int64} (ht : t.eval args s none [] s = some (.ref x)) (h : (Jvm.Cond.eq (.field t C n d) (.op1 .bitsD (.long k))).value args s none s [] = some true) : Fld s s.heap x C n d (.double k.toUInt64) := by
  obtain ⟨y, z, h1, h2, h3, -⟩ := cmp_v (Or.inl h)
  have h2' : z = .double k.toUInt64 := Option.some.inj (h2.symm.trans (show (Term.op1 .bitsD (.long k)).eval args s none [] s = some (.double k.toUInt64) from rfl))
  subst h2'
  obtain ⟨u, rfl⟩ : ∃ u, y = .double u := by cases y <;> simp [Kin, Value.isRef] at h3 ⊢
  have h4 : u = k.toUInt64 := by simpa [Jvm.Cond.value, h1, h2] using h
  subst h4
  exact Fld.start ((fld_at ht).symm.trans h1)
theorem own_m63 (x : Int64) : 0 ≤ (x &&& 9223372036854775807).toInt := by
  have h : (x &&& 9223372036854775807).toBitVec.msb = false := by
    rw [Int64.toBitVec_and, BitVec.msb_and]
    have : (9223372036854775807 : Int64).toBitVec.msb = false := by decide
    rw [this]; simp
  exact BitVec.toInt_nonneg_of_msb_false h
theorem own_d (x : Int32) : 0 < ((x &&& 65535) + 1).toInt := by
  have h1 := c_mask x 65535 16 (by decide) (by decide)
  have q := c_iadd (x &&& 65535) 1
  have r := rng32 ((x &&& 65535) + 1)
  have e : (1 : Int32).toInt = 1 := by decide
  have e2 : ((2 ^ 16 : Nat) : Int) = 65536 := by decide
  omega
theorem own_sa : ∀ w ∈ Bundle.stringAtoms, w ∈ tables_1 := by decide +kernel
theorem own_wS {Z : State} {a0 : Array Value} (hw : ∀ d ∈ tables_1, d.before a0 Z = true) : ∀ a ∈ Bundle.stringAtoms, a.before a0 Z = true := fun a ha => hw a (own_sa a ha)
abbrev rKR : Room := { frames := 1, cells := 0, slots := 0, locals := 12 }
theorem d0_0 : decode jdk_30_method_1_code 0 = .ok (.aload_n 0, 1) := by decide +kernel
theorem d0_1 : decode jdk_30_method_1_code 1 = .ok (.invokespecial 1, 3) := by decide +kernel
theorem d0_4 : decode jdk_30_method_1_code 4 = .ok (.return_, 1) := by decide +kernel
theorem pn0 : plainName "java/lang/Record" = true := by first | (simp [plainName, overriddenIn]; done) | decide +kernel
theorem efR (m : MethodId) (a1 : Addr) : entryFrame m #[(.ref a1)] 1 = mkF m 0 #[rv a1] [] := by first | (simp [entryFrame, mkF, argsToLocals, Value.category]; done) | rfl
def QR (Z : State) (a1 : Addr) (h0 : Heap) (n0 : Nat) (v : Option Value) (h : Heap) (L : List Loc) : Prop := v = none ∧ Fr n0 L ∧ h = h0
set_option maxRecDepth 65536 in
set_option maxHeartbeats 40000000 in
theorem rmR (l : Launch) (Z : State) (a0 : Array Value) (hw : HW a0 Z) (ws : List Jvm.Cond) (a1 : Addr) (h0 : Heap) (n0 : Nat) (Z0 : n0 ≤ h0.size) :
    MF l Z mN0 jdk_30_method_1_code 1 none ws rKR #[(.ref a1)] h0 (QR Z a1 h0 n0) := by
  refine MetFree.of_bodySF (plainFor_of_name pn0) hisR ?_
  intro p e s m args bl meth c s1 Bd hml0 hP hK
  obtain ⟨rfl, hZ, hh⟩ := hP
  have hx := Bd.exec
  have hby := Bd.bytes
  have B := @hb c _ hby
  have hM := fun {n : Nat} (h : n = 1) => h.trans hml0.symm
  have hown : s.vm.findClass "java/lang/Record" = some m.cls := findClass_of_methodNamed Bd.named
  have hlk : meth.locks = false := BodyLoose.notSynchronized Bd
  have X0 : Stand p l e rKR s m #[(.ref a1)] bl meth c s1 [] 0 0 := Stand.of_body Bd
  have e0 : s1.heap = h0 := by rw [← hh, Bd.state]; rfl
  have N0 := Fr.nil n0
  obtain ⟨EF, hEF⟩ : ∃ f, f = entryFrame m #[(.ref a1)] 1 := ⟨_, rfl⟩
  have pre0 : Go p e bl s1 (mkF m 0 #[rv a1] []) s1 EF := fun t k => by rw [hEF]; exact castTop (efR m a1) k
  have pre1 : Go p e bl s1 (mkF m 1 #[rv a1] [(.ref a1)]) s1 EF := fun t k => pre0 t (by
   exact XS.aloadN X0.here hx rfl (B d0_0) rfl rfl k)
  obtain ⟨T2, X2, e2, st2⟩ := initO X0 hx hZ hown (hw _ (mW 16 rfl)) (hw _ (mW 17 rfl)) (hw _ (mW 18 rfl)) e0 (g := (mkF m 1 #[rv a1] [(.ref a1)])) rfl (hM rfl) rfl (B d0_1) (by decide) (W := 0) (Nat.le_of_eq rfl) (by decide)
  have pre3 : Go p e bl T2 (mkF m 4 #[rv a1] []) s1 EF := fun t k => pre1 t (st2 t k)
  exact fin1 X2 (v := none) (fun _ => rfl) hlk (wl rfl) (wl rfl) (by rw [e2]; exact ⟨rfl, N0, rfl⟩) (fun fs hr => hEF ▸ pre3 _ (X2.returnOut hx Bd.returns (B d0_4) hr))
abbrev rKN : Room := { frames := 0, cells := 0, slots := 0, locals := 0 }
theorem d1_0 : decode jdk_31_method_11_code 0 = .ok (.aload_n 0, 1) := by decide +kernel
theorem d1_1 : decode jdk_31_method_11_code 1 = .ok (.ifnonnull 12, 3) := by decide +kernel
theorem d1_13 : decode jdk_31_method_11_code 13 = .ok (.aload_n 0, 1) := by decide +kernel
theorem d1_14 : decode jdk_31_method_11_code 14 = .ok (.areturn, 1) := by decide +kernel
theorem pn1 : plainName "java/util/Objects" = true := by first | (simp [plainName, overriddenIn]; done) | decide +kernel
theorem efN (m : MethodId) (a1 : Addr) (a2 : Addr) : entryFrame m #[(.ref a1), (.ref a2)] 2 = mkF m 0 #[rv a1, rv a2] [] := by first | (simp [entryFrame, mkF, argsToLocals, Value.category]; done) | rfl
def QN (Z : State) (a1 : Addr) (a2 : Addr) (h0 : Heap) (n0 : Nat) (v : Option Value) (h : Heap) (L : List Loc) : Prop := v = some (.ref a1) ∧ Fr n0 L ∧ h = h0
set_option maxRecDepth 65536 in
set_option maxHeartbeats 40000000 in
theorem rmN (l : Launch) (Z : State) (a0 : Array Value) (hw : HW a0 Z) (ws : List Jvm.Cond) (a1 : Addr) (a2 : Addr) (h0 : Heap) (n0 : Nat) (Z0 : n0 ≤ h0.size) :
    MF l Z mN1 jdk_31_method_11_code 2 (some (.object "java/lang/Object")) ws rKN #[(.ref a1), (.ref a2)] h0 (QN Z a1 a2 h0 n0) := by
  refine MetFree.of_bodySF (plainFor_of_name pn1) hisR ?_
  intro p e s m args bl meth c s1 Bd hml0 hP hK
  obtain ⟨rfl, hZ, hh⟩ := hP
  have hx := Bd.exec
  have hby := Bd.bytes
  have B := @hb c _ hby
  have hown : s.vm.findClass "java/util/Objects" = some m.cls := findClass_of_methodNamed Bd.named
  have hlk : meth.locks = false := BodyLoose.notSynchronized Bd
  have hrt : ∀ {v : Option Value}, meth.sig.returnType = none → v = none := fun h => by rw [Bd.returns] at h; cases h
  have X0 : Stand p l e rKN s m #[(.ref a1), (.ref a2)] bl meth c s1 [] 0 0 := Stand.of_body Bd
  have e0 : s1.heap = h0 := by rw [← hh, Bd.state]; rfl
  have N0 := Fr.nil n0
  obtain ⟨EF, hEF⟩ : ∃ f, f = entryFrame m #[(.ref a1), (.ref a2)] 2 := ⟨_, rfl⟩
  have pre0 : Go p e bl s1 (mkF m 0 #[rv a1, rv a2] []) s1 EF := fun t k => by rw [hEF]; exact castTop (efN m a1 a2) k
  have pre1 : Go p e bl s1 (mkF m 14 #[rv a1, rv a2] [(.ref a1)]) s1 EF := fun t k => pre0 t (by
   refine XS.aloadN X0.here hx rfl (B d1_0) rfl rfl ?_
   refine XS.ifnonnullYes X0.here hx rfl (pc0 := 1) (pc' := 13) rfl (B d1_1) rfl (by decide) (by decide) ?_
   exact XS.aloadN X0.here hx rfl (B d1_13) rfl rfl k)
  exact fin1 X0 (v := some (.ref a1)) hrt hlk (wl rfl) (wl rfl) (by rw [e0]; exact ⟨rfl, N0, rfl⟩) (fun fs hr => hEF ▸ pre1 _ (retOut X0 hx Bd.returns rfl (Or.inr (Or.inr (Or.inr (Or.inr ⟨rfl, rfl, rfl⟩)))) (B d1_14) hr))
abbrev rKK : Room := { frames := 0, cells := 0, slots := 0, locals := 0 }
theorem d2_0 : decode prog_22_method_4_code 0 = .ok (.aload_n 0, 1) := by decide +kernel
theorem d2_1 : decode prog_22_method_4_code 1 = .ok (.getfield 29, 3) := by decide +kernel
theorem d2_4 : decode prog_22_method_4_code 4 = .ok (.dreturn, 1) := by decide +kernel
theorem pn2 : plainName "com/example/uni_repos/unirepos/geo/Metrics" = true := by first | (simp [plainName, overriddenIn]; done) | decide +kernel
theorem efK (m : MethodId) (a1 : Addr) : entryFrame m #[(.ref a1)] 1 = mkF m 0 #[rv a1] [] := by first | (simp [entryFrame, mkF, argsToLocals, Value.category]; done) | rfl
def QK (Z : State) (a1 : Addr) (r : UInt64) (h0 : Heap) (n0 : Nat) (v : Option Value) (h : Heap) (L : List Loc) : Prop := v = some (.double r) ∧ Fr n0 L ∧ h = h0
set_option maxRecDepth 65536 in
set_option maxHeartbeats 40000000 in
theorem rmK (l : Launch) (Z : State) (a0 : Array Value) (hw : HW a0 Z) (ws : List Jvm.Cond) (a1 : Addr) (r : UInt64) (h0 : Heap) (n0 : Nat) (Z0 : n0 ≤ h0.size) (F1 : Fld Z h0 a1 "com/example/uni_repos/unirepos/geo/Metrics" "kilometers" "D" (.double r)) :
    MF l Z mN2 prog_22_method_4_code 1 (some .double) ws rKK #[(.ref a1)] h0 (QK Z a1 r h0 n0) := by
  refine MetFree.of_bodySF (plainFor_of_name pn2) hisR ?_
  intro p e s m args bl meth c s1 Bd hml0 hP hK
  obtain ⟨rfl, hZ, hh⟩ := hP
  have hx := Bd.exec
  have hby := Bd.bytes
  have B := @hb c _ hby
  have hown : s.vm.findClass "com/example/uni_repos/unirepos/geo/Metrics" = some m.cls := findClass_of_methodNamed Bd.named
  have hlk : meth.locks = false := BodyLoose.notSynchronized Bd
  have hrt : ∀ {v : Option Value}, meth.sig.returnType = none → v = none := fun h => by rw [Bd.returns] at h; cases h
  have X0 : Stand p l e rKK s m #[(.ref a1)] bl meth c s1 [] 0 0 := Stand.of_body Bd
  have e0 : s1.heap = h0 := by rw [← hh, Bd.state]; rfl
  have N0 := Fr.nil n0
  obtain ⟨EF, hEF⟩ : ∃ f, f = entryFrame m #[(.ref a1)] 1 := ⟨_, rfl⟩
  have pre0 : Go p e bl s1 (mkF m 0 #[rv a1] []) s1 EF := fun t k => by rw [hEF]; exact castTop (efK m a1) k
  have pre1 : Go p e bl s1 (mkF m 1 #[rv a1] [(.ref a1)]) s1 EF := fun t k => pre0 t (by
   exact XS.aloadN X0.here hx rfl (B d2_0) rfl rfl k)
  obtain ⟨T2, X2, e2, st2⟩ := getF X0 hx hZ hown (host := "") (Or.inl (hw _ (mW 36 rfl))) Via.refl e0 F1 (g := (mkF m 1 #[rv a1] [(.ref a1)])) rfl rfl (B d2_1)
  have pre3 : Go p e bl T2 (mkF m 4 #[rv a1] [(.double r)]) s1 EF := fun t k => pre1 t (st2 t k)
  exact fin1 X2 (v := some (.double r)) hrt hlk (wl rfl) (wl rfl) (by rw [e2]; exact ⟨rfl, N0, rfl⟩) (fun fs hr => hEF ▸ pre3 _ (retOut X2 hx Bd.returns rfl (Or.inr (Or.inr (Or.inl ⟨rfl, rfl, _, rfl⟩))) (B d2_4) hr))
abbrev rKInf : Room := { frames := 1, cells := 0, slots := 0, locals := 13 }
def QInf (h0 : Heap) (n0 : Nat) (v : Option Value) (h : Heap) (L : List Loc) : Prop := v = some (.int (0 : Int32)) ∧ Fr n0 L ∧ h = h0
theorem rmInf (l : Launch) (Z : State) (a0 : Array Value) (hw : HW a0 Z) (ws : List Jvm.Cond) (d : UInt64) (h0 : Heap) (n0 : Nat) (Z0 : n0 ≤ h0.size) (hfin : Fin64 d) :
    MF l Z mN3 jdk_117_method_7_code 2 (some .boolean) ws rKInf #[(.double d)] h0 (QInf h0 n0) := by
  intro p e ha hcs hk s m args below hfr happ hP hK
  obtain ⟨rfl, hZ, hh⟩ := hP
  obtain ⟨a1, a2, a3, a4, a5, a6, a7, a8⟩ := (Spec.appliesLoose_iff hfr).mp happ
  have hpre : Jvm.Free.Fl.IsInfinite.spec.pre.before #[(.double d)] s = true := by
    simp only [Jvm.Free.Fl.IsInfinite.spec, Jvm.Free.Fl.IsInfinite.tab, Cond.before_and, Bool.and_eq_true]
    exact ⟨rfl, mvT hZ (hw _ (mW 41 rfl)), mvT hZ (hw _ (mW 42 rfl)), mvT hZ (hw _ (mW 43 rfl)), mvT hZ (hw _ (mW 44 rfl)), mvT hZ (hw _ (mW 45 rfl)), mvT hZ (hw _ (mW 46 rfl))⟩
  obtain ⟨n, o, h1, h2, h3, h4, h5, h6⟩ := Jvm.Free.Fl.IsInfinite.gets_fin l d p e ha hcs hk s m _ below hfr ((Spec.appliesLoose_iff hfr).mpr ⟨a1, a2, a3, a4, a5, a6, a7, hpre⟩) ⟨rfl, hfin⟩ trivial
  exact ⟨n, o, h1, h2, h3, _, [], h4, ⟨rfl, Fr.nil n0, h5.trans hh⟩, h6⟩
abbrev rKD : Room := { frames := 2, cells := 2, slots := 20, locals := 26 }
theorem d3_0 : decode prog_20_method_1_code 0 = .ok (.aload_n 0, 1) := by decide +kernel
theorem d3_1 : decode prog_20_method_1_code 1 = .ok (.invokespecial 1, 3) := by decide +kernel
theorem d3_4 : decode prog_20_method_1_code 4 = .ok (.aload_n 3, 1) := by decide +kernel
theorem d3_5 : decode prog_20_method_1_code 5 = .ok (.ldc 7, 2) := by decide +kernel
theorem d3_7 : decode prog_20_method_1_code 7 = .ok (.invokestatic 9, 3) := by decide +kernel
theorem d3_10 : decode prog_20_method_1_code 10 = .ok (.pop, 1) := by decide +kernel
theorem d3_11 : decode prog_20_method_1_code 11 = .ok (.dload_n 1, 1) := by decide +kernel
theorem d3_12 : decode prog_20_method_1_code 12 = .ok (.dconst 0, 1) := by decide +kernel
theorem d3_13 : decode prog_20_method_1_code 13 = .ok (.dcmp .l, 1) := by decide +kernel
theorem d3_14 : decode prog_20_method_1_code 14 = .ok (.ifCond .ge 17, 3) := by decide +kernel
theorem d3_31 : decode prog_20_method_1_code 31 = .ok (.dload_n 1, 1) := by decide +kernel
theorem d3_32 : decode prog_20_method_1_code 32 = .ok (.aload_n 3, 1) := by decide +kernel
theorem d3_33 : decode prog_20_method_1_code 33 = .ok (.invokevirtual 24, 3) := by decide +kernel
theorem d3_36 : decode prog_20_method_1_code 36 = .ok (.dmul, 1) := by decide +kernel
theorem d3_37 : decode prog_20_method_1_code 37 = .ok (.invokestatic 30, 3) := by decide +kernel
theorem d3_40 : decode prog_20_method_1_code 40 = .ok (.ifCond .eq 21, 3) := by decide +kernel
theorem d3_61 : decode prog_20_method_1_code 61 = .ok (.aload_n 0, 1) := by decide +kernel
theorem d3_62 : decode prog_20_method_1_code 62 = .ok (.dload_n 1, 1) := by decide +kernel
theorem d3_63 : decode prog_20_method_1_code 63 = .ok (.putfield 45, 3) := by decide +kernel
theorem d3_66 : decode prog_20_method_1_code 66 = .ok (.aload_n 0, 1) := by decide +kernel
theorem d3_67 : decode prog_20_method_1_code 67 = .ok (.aload_n 3, 1) := by decide +kernel
theorem d3_68 : decode prog_20_method_1_code 68 = .ok (.putfield 51, 3) := by decide +kernel
theorem d3_71 : decode prog_20_method_1_code 71 = .ok (.return_, 1) := by decide +kernel
theorem pn3 : plainName "com/example/uni_repos/unirepos/geo/Distance" = true := by first | (simp [plainName, overriddenIn]; done) | decide +kernel
theorem pd0 : parseMethodDescriptor "()V" = some ⟨[], none⟩ := by decide +kernel
theorem pd1 : parseMethodDescriptor "(Ljava/lang/Object;Ljava/lang/String;)Ljava/lang/Object;" = some ⟨[(.object "java/lang/Object"), (.object "java/lang/String")], some (.object "java/lang/Object")⟩ := by decide +kernel
theorem pd2 : parseMethodDescriptor "()D" = some ⟨[], some .double⟩ := by decide +kernel
theorem pd3 : parseMethodDescriptor "(D)Z" = some ⟨[.double], some .boolean⟩ := by decide +kernel
theorem efD (m : MethodId) (a1 : Addr) (d1 : UInt64) (a2 : Addr) : entryFrame m #[(.ref a1), (.double d1), (.ref a2)] 4 = mkF m 0 #[rv a1, .val (.double d1), .second, rv a2] [] := by first | (simp [entryFrame, mkF, argsToLocals, Value.category]; done) | rfl
def QD (Z : State) (a1 : Addr) (d1 : UInt64) (a2 : Addr) (kk : UInt64) (h0 : Heap) (n0 : Nat) (v : Option Value) (h : Heap) (L : List Loc) : Prop := v = none ∧ Fr n0 L ∧ Keep h0 h [a1] ∧ Exa Z h a1 "com/example/uni_repos/unirepos/geo/Distance" ∧ Fld Z h a1 "com/example/uni_repos/unirepos/geo/Distance" "value" "D" (.double d1) ∧ Fld Z h a1 "com/example/uni_repos/unirepos/geo/Distance" "unit" "Lcom/example/uni_repos/unirepos/geo/Metrics;" (.ref a2)
set_option maxRecDepth 65536 in
set_option maxHeartbeats 40000000 in
theorem rmD (l : Launch) (Z : State) (a0 : Array Value) (hw : HW a0 Z) (ws : List Jvm.Cond) (a1 : Addr) (d1 : UInt64) (a2 : Addr) (kk : UInt64) (h0 : Heap) (n0 : Nat) (Z0 : n0 ≤ h0.size) (E1 : Exa Z h0 a1 "com/example/uni_repos/unirepos/geo/Distance") (g_a1 : n0 ≤ a1) (F1 : Fld Z h0 a1 "com/example/uni_repos/unirepos/geo/Distance" "value" "D" (.double 0)) (F2 : Fld Z h0 a1 "com/example/uni_repos/unirepos/geo/Distance" "unit" "Lcom/example/uni_repos/unirepos/geo/Metrics;" .null) (E2 : Exa Z h0 a2 "com/example/uni_repos/unirepos/geo/Metrics") (F3 : Fld Z h0 a2 "com/example/uni_repos/unirepos/geo/Metrics" "kilometers" "D" (.double kk)) (hpos : ¬ cmpValue (FP.dcmp d1 0) .l < 0) (hfin : Fin64 (FP.dmul d1 kk)) :
    MetFree l mN4 (head1 (Jvm.Cond.code mN4 prog_20_method_1_code 4 none :: ws) rKD) (fun a U => a = #[(.ref a1), (.double d1), (.ref a2)] ∧ Z.Warmed39 U.vm ∧ U.heap = h0) (fun _ _ _ _ _ => True) (fun _ U o U' => ∃ v L, o = .returned v ∧ QD Z a1 d1 a2 kk h0 n0 v U'.heap L ∧ ReturnedEndW U o U' L rKD.cells rKD.slots) := by
  refine MetFree.of_bodySF (plainFor_of_name pn3) hisR ?_
  intro p e s m args bl meth c s1 Bd hml0 hP hK
  obtain ⟨rfl, hZ, hh⟩ := hP
  have hx := Bd.exec
  have hby := Bd.bytes
  have B := @hb c _ hby
  have hM := fun {n : Nat} (h : n = 4) => h.trans hml0.symm
  have hown : s.vm.findClass "com/example/uni_repos/unirepos/geo/Distance" = some m.cls := findClass_of_methodNamed Bd.named
  have hnm := (name_of_methodNamed Bd.named Bd.method).1
  have X0 : Stand p l e rKD (s.setVm s.vm) m #[(.ref a1), (.double d1), (.ref a2)] bl meth c s1 [] 0 0 := Stand.of_body Bd
  have e0 : s1.heap = h0 := by rw [← hh, Bd.state]; rfl
  have N0 := Fr.nil n0
  obtain ⟨EF, hEF⟩ : ∃ f, f = entryFrame m #[(.ref a1), (.double d1), (.ref a2)] 4 := ⟨_, rfl⟩
  have pre0 : Go p e bl s1 (mkF m 0 #[rv a1, .val (.double d1), .second, rv a2] []) s1 EF := fun t k => by rw [hEF]; exact castTop (efD m a1 d1 a2) k
  have hZ0 : Z.Warmed39 (s.setVm s.vm).vm := hZ
  have hown0 : (s.setVm s.vm).vm.findClass "com/example/uni_repos/unirepos/geo/Distance" = some m.cls := hown
  have hS0 : s.Since s.vm s.heap.size := (State.WarmedH.refl s).since _
  have hk0 : s.heap.size ≤ h0.size := by rw [← hh]; exact Nat.le_refl _
  have pre1 : Go p e bl s1 (mkF m 1 #[rv a1, .val (.double d1), .second, rv a2] [(.ref a1)]) s1 EF := fun t k => pre0 t (by
   exact XS.aloadN X0.here hx rfl (B d3_0) rfl rfl k)
  obtain ⟨_, _, ⟨T2, L2, k2, n2⟩, -, X2, ⟨Lc2, hQ2, l2, y2, z2⟩, st2⟩ := X0.specialBack hx (y := mN0) rfl hown0 (mvT hZ0 (hw _ (mW 11 rfl))) (mvT hZ0 (hw _ (mW 12 rfl))) (mvT hZ0 (hw _ (mW 15 rfl))) (by decide) (backOf (W := 0) (rmR l Z a0 hw [] a1 h0 n0 Z0) hZ0 (hw _ (mW 15 rfl)) (hw _ (mW 14 rfl)) (by decide) (by decide)) (g := (mkF m 1 #[rv a1, .val (.double d1), .second, rv a2] [(.ref a1)])) rfl (hM rfl) (Steps.refl _) (a := a1) (argsL := []) (rest := []) (lenOf pd0 rfl) rfl (Nat.le_of_eq rfl) (B d3_1) (fun _ _ => ⟨rfl, e0, wl rfl, wl rfl⟩)
  dsimp only [Pt.U, Pt.locs, Pt.cells, Pt.slots] at X2 l2 y2 z2 st2 hQ2
  subst l2 y2 z2
  obtain ⟨rfl, N2q, hq2⟩ := hQ2
  have N2 := Fr.app N0 N2q
  have pre3 : Go p e bl T2 (mkF m 4 #[rv a1, .val (.double d1), .second, rv a2] []) s1 EF := fun t k => pre1 t (st2.trans k)
  have e2 : T2.heap = h0 := hq2
  have pre4 : Go p e bl T2 (mkF m 5 #[rv a1, .val (.double d1), .second, rv a2] [(.ref a2)]) s1 EF := fun t k => pre3 t (by
   exact XS.aloadN X2.here hx rfl (B d3_4) rfl rfl k)
  obtain ⟨a5, T5, h5, k5, X5, e5, Et5, hS5, hk5, hZ5, hown5, st5⟩ := ldcS X2 hx hZ0 hown0 (hw _ (mW 19 rfl)) (own_wS hw) e2 hS0 hk0 (g := (mkF m 5 #[rv a1, .val (.double d1), .second, rv a2] [(.ref a2)])) rfl (B d3_5) (n := 16) (by decide) (by decide) (by decide) (by decide)
  have pre6 : Go p e bl T5 (mkF m 7 #[rv a1, .val (.double d1), .second, rv a2] [(.ref a5), (.ref a2)]) s1 EF := fun t k => pre4 t (st5 t k)
  have Z7 : n0 ≤ h5.size := Nat.le_trans Z0 Et5.1
  have K7 : Keep h0 h5 [a1] := (Keep.refl h0 [a1]).ext Et5
  obtain ⟨_, _, ⟨T8, L8, k8, n8⟩, -, X8, ⟨Lc8, hQ8, l8, y8, z8⟩, st8⟩ := Jvm.LawKit.callS X5 hx (y := mN1) hown5 (mvT hZ5 (hw _ (mW 27 rfl))) (mvT hZ5 (hw _ (mW 28 rfl))) (mvT hZ5 (hw _ (mW 29 rfl))) (mvT hZ5 (hw _ (mW 30 rfl))) (by decide) (backOf (W := 0) (rmN l Z a0 hw [] a2 a5 h5 n0 Z7) hZ5 (hw _ (mW 30 rfl)) (hw _ (mW 29 rfl)) (by decide) (by decide)) (g := (mkF m 7 #[rv a1, .val (.double d1), .second, rv a2] [(.ref a5), (.ref a2)])) rfl (hM rfl) (argsL := [(.ref a2), (.ref a5)]) (rest := []) (lenOf pd1 rfl) rfl (Nat.le_of_eq rfl) (B d3_7) (fun _ _ => ⟨rfl, e5, wl rfl, wl rfl⟩)
  dsimp only [Pt.U, Pt.locs, Pt.cells, Pt.slots] at X8 l8 y8 z8 st8 hQ8
  subst l8 y8 z8
  obtain ⟨rfl, N8q, hq8⟩ := hQ8
  have N8 := Fr.app N2 N8q
  have pre9 : Go p e bl T8 (mkF m 10 #[rv a1, .val (.double d1), .second, rv a2] [(.ref a2)]) s1 EF := fun t k => pre6 t (st8 t k)
  have e8 : T8.heap = h5 := hq8
  have pre10 : Go p e bl T8 (mkF m 14 #[rv a1, .val (.double d1), .second, rv a2] [(.int (cmpValue (FP.dcmp d1 (0 : UInt64)) .l))]) s1 EF := fun t k => pre9 t (by
   refine XS.pop X8.here hx rfl (B d3_10) rfl rfl ?_
   refine XS.dloadN X8.here hx rfl (B d3_11) rfl ?_
   refine XS.dconst0 X8.here hx rfl (v := (0 : UInt64)) (B d3_12) (by decide) ?_
   exact XS.dcmpS X8.here hx rfl (v := (cmpValue (FP.dcmp d1 (0 : UInt64)) .l)) (B d3_13) rfl rfl k)
  have pre11 : Go p e bl T8 (mkF m 31 #[rv a1, .val (.double d1), .second, rv a2] []) s1 EF := fun t k => pre10 t (XS.ifYes X8.here hx rfl (pc0 := 14) (pc' := 31) rfl (B d3_14) rfl ((if0 _ _).trans (flt hpos).2.1) (by decide) (by decide) k)
  have pre12 : Go p e bl T8 (mkF m 33 #[rv a1, .val (.double d1), .second, rv a2] [(.ref a2), (.double d1)]) s1 EF := fun t k => pre11 t (by
   refine XS.dloadN X8.here hx rfl (B d3_31) rfl ?_
   exact XS.aloadN X8.here hx rfl (B d3_32) rfl rfl k)
  obtain ⟨cq13, kq13, q13a, q13b, q13c⟩ := isOf hZ5 e8 (E2.ext Et5)
  obtain ⟨_, _, ⟨T13, L13, k13, n13⟩, -, X13, ⟨Lc13, hQ13, l13, y13, z13⟩, st13⟩ := X8.virtualBack hx (y := mN2) (z := mN2) hown5 (mvT hZ5 (hw _ (mW 31 rfl))) (mvT hZ5 (hw _ (mW 32 rfl))) (notFace_of_selects (args := #[]) (mvT hZ5 (hw _ (mW 34 rfl)))) (mvT hZ5 (hw _ (mW 34 rfl))) (mvT hZ5 (hw _ (mW 33 rfl))) (by decide) (backOf (W := 2) (rmK l Z a0 hw [] a2 kk h5 n0 Z7 (F3.ext Et5)) hZ5 (hw _ (mW 35 rfl)) (hw _ (mW 3 rfl)) (by decide) (by decide)) q13a q13c (g := (mkF m 33 #[rv a1, .val (.double d1), .second, rv a2] [(.ref a2), (.double d1)])) rfl (hM rfl) (Steps.refl _) (argsL := []) (rest := [(.double d1)]) (lenOf pd2 rfl) rfl (Nat.le_of_eq rfl) (B d3_33) (fun _ _ => ⟨rfl, e8, wl rfl, wl rfl⟩)
  dsimp only [Pt.U, Pt.locs, Pt.cells, Pt.slots] at X13 l13 y13 z13 st13 hQ13
  subst l13 y13 z13
  obtain ⟨rfl, N13q, hq13⟩ := hQ13
  have N13 := Fr.app N8 N13q
  have pre14 : Go p e bl T13 (mkF m 36 #[rv a1, .val (.double d1), .second, rv a2] [(.double kk), (.double d1)]) s1 EF := fun t k => pre12 t (st13.trans k)
  have e13 : T13.heap = h5 := hq13
  have pre15 : Go p e bl T13 (mkF m 37 #[rv a1, .val (.double d1), .second, rv a2] [(.double (FP.dmul d1 kk))]) s1 EF := fun t k => pre14 t (by
   exact XS.dmulS X13.here hx rfl (v := (FP.dmul d1 kk)) (B d3_36) rfl hfin.noNaN rfl k)
  obtain ⟨_, _, ⟨T16, L16, k16, n16⟩, -, X16, ⟨Lc16, hQ16, l16, y16, z16⟩, st16⟩ := Jvm.LawKit.callS X13 hx (y := mN3) hown5 (mvT hZ5 (hw _ (mW 38 rfl))) (mvT hZ5 (hw _ (mW 39 rfl))) (mvT hZ5 (hw _ (mW 40 rfl))) (mvT hZ5 (hw _ (mW 41 rfl))) (by decide) (backOf (W := 0) (rmInf l Z a0 hw [] (FP.dmul d1 kk) h5 n0 Z7 hfin) hZ5 (hw _ (mW 41 rfl)) (hw _ (mW 40 rfl)) (by decide) (by decide)) (g := (mkF m 37 #[rv a1, .val (.double d1), .second, rv a2] [(.double (FP.dmul d1 kk))])) rfl (hM rfl) (argsL := [(.double (FP.dmul d1 kk))]) (rest := []) (lenOf pd3 rfl) rfl (Nat.le_of_eq rfl) (B d3_37) (fun _ _ => ⟨rfl, e13, wl rfl, wl rfl⟩)
  dsimp only [Pt.U, Pt.locs, Pt.cells, Pt.slots] at X16 l16 y16 z16 st16 hQ16
  subst l16 y16 z16
  obtain ⟨rfl, N16q, hq16⟩ := hQ16
  have N16 := Fr.app N13 N16q
  have pre17 : Go p e bl T16 (mkF m 40 #[rv a1, .val (.double d1), .second, rv a2] [(.int (0 : Int32))]) s1 EF := fun t k => pre15 t (st16 t k)
  have e16 : T16.heap = h5 := hq16
  have pre18 : Go p e bl T16 (mkF m 61 #[rv a1, .val (.double d1), .second, rv a2] []) s1 EF := fun t k => pre17 t (XS.ifYes X16.here hx rfl (pc0 := 40) (pc' := 61) rfl (B d3_40) rfl ((if0 _ _).trans (teq (by decide : (0 : Int32) = (0 : Int32))).1) (by decide) (by decide) k)
  have pre19 : Go p e bl T16 (mkF m 63 #[rv a1, .val (.double d1), .second, rv a2] [(.double d1), (.ref a1)]) s1 EF := fun t k => pre18 t (by
   refine XS.aloadN X16.here hx rfl (B d3_61) rfl rfl ?_
   exact XS.dloadN X16.here hx rfl (B d3_62) rfl k)
  obtain ⟨T20, h20, X20, e20, W20, st20⟩ := putF X16 hx hZ5 hown5 (host := "") (Or.inl (hw _ (mW 47 rfl))) Via.refl e16 (F1.ext Et5) (E1.ext Et5) (Or.inr ⟨(hw _ (mW 48 rfl)), rfl, hnm⟩) (hw _ (mW 6 rfl)) (ty := .double) (by decide) rfl rfl (g := (mkF m 63 #[rv a1, .val (.double d1), .second, rv a2] [(.double d1), (.ref a1)])) rfl rfl (B d3_63)
  have pre21 : Go p e bl T20 (mkF m 66 #[rv a1, .val (.double d1), .second, rv a2] []) s1 EF := fun t k => pre19 t (st20 t k)
  have Z22 : n0 ≤ h20.size := Nat.le_trans Z7 (Keep.of_wr W20).1
  have hk22 := Nat.le_trans hk5 (Keep.of_wr W20).1
  have K22 : Keep h0 h20 [a1] := K7.wr W20 (Or.inl (List.mem_of_getElem? (i := 0) rfl))
  have Fw20 := Fld.same W20 (F1.ext Et5)
  have N20 := Fr.snoc X20 N16 g_a1
  have pre23 : Go p e bl T20 (mkF m 68 #[rv a1, .val (.double d1), .second, rv a2] [(.ref a2), (.ref a1)]) s1 EF := fun t k => pre21 t (by
   refine XS.aloadN X20.here hx rfl (B d3_66) rfl rfl ?_
   exact XS.aloadN X20.here hx rfl (B d3_67) rfl rfl k)
  obtain ⟨T24, h24, X24, e24, W24, st24⟩ := putF X20 hx hZ5 hown5 (host := "") (Or.inl (hw _ (mW 49 rfl))) Via.refl e20 (Fld.other W20 (F2.ext Et5) (Or.inr (slot_ne (Or.inr (hw _ (mW 50 rfl))) (Or.inr (hw _ (mW 48 rfl))) (by decide) (t := (.object "com/example/uni_repos/unirepos/geo/Metrics")) (t' := .double) (by decide) (by decide)))) ((E1.ext Et5).wr W20) (Or.inr ⟨(hw _ (mW 50 rfl)), rfl, hnm⟩) (hw _ (mW 6 rfl)) (ty := (.object "com/example/uni_repos/unirepos/geo/Metrics")) (by decide) rfl rfl (g := (mkF m 68 #[rv a1, .val (.double d1), .second, rv a2] [(.ref a2), (.ref a1)])) rfl rfl (B d3_68)
  have pre25 : Go p e bl T24 (mkF m 71 #[rv a1, .val (.double d1), .second, rv a2] []) s1 EF := fun t k => pre23 t (st24 t k)
  have Z26 : n0 ≤ h24.size := Nat.le_trans Z22 (Keep.of_wr W24).1
  have hk26 := Nat.le_trans hk22 (Keep.of_wr W24).1
  have K26 : Keep h0 h24 [a1] := K22.wr W24 (Or.inl (List.mem_of_getElem? (i := 0) rfl))
  have Fw24 := Fld.same W24 (Fld.other W20 (F2.ext Et5) (Or.inr (slot_ne (Or.inr (hw _ (mW 50 rfl))) (Or.inr (hw _ (mW 48 rfl))) (by decide) (t := (.object "com/example/uni_repos/unirepos/geo/Metrics")) (t' := .double) (by decide) (by decide))))
  have N24 := Fr.snoc X24 N20 g_a1
  obtain ⟨fs, hr, hrun, hended, hend1, hend2, hend3, hsame⟩ := X24.leaveW hS5 (by rw [e24]; exact hk26) (v := none) (fun _ => rfl)
  refine ⟨_, _, hEF ▸ pre25 _ (X24.returnOut hx Bd.returns (B d3_71) hr), hrun, hended, _, _, rfl, ?_, hend1, hend2, hend3, hsame.mono (by decide) (by decide)⟩
  show QD Z a1 d1 a2 kk h0 n0 _ T24.heap _
  rw [e24]
  exact ⟨rfl, N24, K26, (((E1.ext Et5).wr W20).wr W24), (Fld.other W24 Fw20 (Or.inr (slot_ne (Or.inr (hw _ (mW 48 rfl))) (Or.inr (hw _ (mW 50 rfl))) (by decide) (t := .double) (t' := (.object "com/example/uni_repos/unirepos/geo/Metrics")) (by decide) (by decide)))), Fw24⟩
abbrev rKI : Room := { frames := 1, cells := 0, slots := 0, locals := 14 }
theorem d4_0 : decode prog_20_method_2_code 0 = .ok (.aload_n 0, 1) := by decide +kernel
theorem d4_1 : decode prog_20_method_2_code 1 = .ok (.getfield 45, 3) := by decide +kernel
theorem d4_4 : decode prog_20_method_2_code 4 = .ok (.aload_n 0, 1) := by decide +kernel
theorem d4_5 : decode prog_20_method_2_code 5 = .ok (.getfield 51, 3) := by decide +kernel
theorem d4_8 : decode prog_20_method_2_code 8 = .ok (.invokevirtual 24, 3) := by decide +kernel
theorem d4_11 : decode prog_20_method_2_code 11 = .ok (.dmul, 1) := by decide +kernel
theorem d4_12 : decode prog_20_method_2_code 12 = .ok (.dreturn, 1) := by decide +kernel
theorem efI (m : MethodId) (a1 : Addr) : entryFrame m #[(.ref a1)] 1 = mkF m 0 #[rv a1] [] := by first | (simp [entryFrame, mkF, argsToLocals, Value.category]; done) | rfl
def QI (Z : State) (a1 : Addr) (a2 : Addr) (d1 : UInt64) (kk : UInt64) (h0 : Heap) (n0 : Nat) (v : Option Value) (h : Heap) (L : List Loc) : Prop := v = some (.double (FP.dmul d1 kk)) ∧ Fr n0 L ∧ h = h0
set_option maxRecDepth 65536 in
set_option maxHeartbeats 40000000 in
theorem rmI (l : Launch) (Z : State) (a0 : Array Value) (hw : HW a0 Z) (ws : List Jvm.Cond) (a1 : Addr) (a2 : Addr) (d1 : UInt64) (kk : UInt64) (h0 : Heap) (n0 : Nat) (Z0 : n0 ≤ h0.size) (F1 : Fld Z h0 a1 "com/example/uni_repos/unirepos/geo/Distance" "value" "D" (.double d1)) (F2 : Fld Z h0 a1 "com/example/uni_repos/unirepos/geo/Distance" "unit" "Lcom/example/uni_repos/unirepos/geo/Metrics;" (.ref a2)) (E2 : Exa Z h0 a2 "com/example/uni_repos/unirepos/geo/Metrics") (F3 : Fld Z h0 a2 "com/example/uni_repos/unirepos/geo/Metrics" "kilometers" "D" (.double kk)) (hfin : Fin64 (FP.dmul d1 kk)) :
    MF l Z mN5 prog_20_method_2_code 1 (some .double) ws rKI #[(.ref a1)] h0 (QI Z a1 a2 d1 kk h0 n0) := by
  refine MetFree.of_bodySF (plainFor_of_name pn3) hisR ?_
  intro p e s m args bl meth c s1 Bd hml0 hP hK
  obtain ⟨rfl, hZ, hh⟩ := hP
  have hx := Bd.exec
  have hby := Bd.bytes
  have B := @hb c _ hby
  have hM := fun {n : Nat} (h : n = 1) => h.trans hml0.symm
  have hown : s.vm.findClass "com/example/uni_repos/unirepos/geo/Distance" = some m.cls := findClass_of_methodNamed Bd.named
  have hlk : meth.locks = false := BodyLoose.notSynchronized Bd
  have hrt : ∀ {v : Option Value}, meth.sig.returnType = none → v = none := fun h => by rw [Bd.returns] at h; cases h
  have X0 : Stand p l e rKI s m #[(.ref a1)] bl meth c s1 [] 0 0 := Stand.of_body Bd
  have e0 : s1.heap = h0 := by rw [← hh, Bd.state]; rfl
  have N0 := Fr.nil n0
  obtain ⟨EF, hEF⟩ : ∃ f, f = entryFrame m #[(.ref a1)] 1 := ⟨_, rfl⟩
  have pre0 : Go p e bl s1 (mkF m 0 #[rv a1] []) s1 EF := fun t k => by rw [hEF]; exact castTop (efI m a1) k
  have pre1 : Go p e bl s1 (mkF m 1 #[rv a1] [(.ref a1)]) s1 EF := fun t k => pre0 t (by
   exact XS.aloadN X0.here hx rfl (B d4_0) rfl rfl k)
  obtain ⟨T2, X2, e2, st2⟩ := getF X0 hx hZ hown (host := "") (Or.inl (hw _ (mW 47 rfl))) Via.refl e0 F1 (g := (mkF m 1 #[rv a1] [(.ref a1)])) rfl rfl (B d4_1)
  have pre3 : Go p e bl T2 (mkF m 4 #[rv a1] [(.double d1)]) s1 EF := fun t k => pre1 t (st2 t k)
  have pre4 : Go p e bl T2 (mkF m 5 #[rv a1] [(.ref a1), (.double d1)]) s1 EF := fun t k => pre3 t (by
   exact XS.aloadN X2.here hx rfl (B d4_4) rfl rfl k)
  obtain ⟨T5, X5, e5, st5⟩ := getF X2 hx hZ hown (host := "") (Or.inl (hw _ (mW 49 rfl))) Via.refl e2 F2 (g := (mkF m 5 #[rv a1] [(.ref a1), (.double d1)])) rfl rfl (B d4_5)
  have pre6 : Go p e bl T5 (mkF m 8 #[rv a1] [(.ref a2), (.double d1)]) s1 EF := fun t k => pre4 t (st5 t k)
  obtain ⟨cq7, kq7, q7a, q7b, q7c⟩ := isOf hZ e5 E2
  obtain ⟨_, _, ⟨T7, L7, k7, n7⟩, -, X7, ⟨Lc7, hQ7, l7, y7, z7⟩, st7⟩ := X5.virtualBack hx (y := mN2) (z := mN2) hown (mvT hZ (hw _ (mW 31 rfl))) (mvT hZ (hw _ (mW 32 rfl))) (notFace_of_selects (args := #[]) (mvT hZ (hw _ (mW 34 rfl)))) (mvT hZ (hw _ (mW 34 rfl))) (mvT hZ (hw _ (mW 33 rfl))) (by decide) (backOf (W := 2) (rmK l Z a0 hw [] a2 kk h0 n0 Z0 F3) hZ (hw _ (mW 35 rfl)) (hw _ (mW 3 rfl)) (by decide) (by decide)) q7a q7c (g := (mkF m 8 #[rv a1] [(.ref a2), (.double d1)])) rfl (hM rfl) (Steps.refl _) (argsL := []) (rest := [(.double d1)]) (lenOf pd2 rfl) rfl (Nat.le_of_eq rfl) (B d4_8) (fun _ _ => ⟨rfl, e5, wl rfl, wl rfl⟩)
  dsimp only [Pt.U, Pt.locs, Pt.cells, Pt.slots] at X7 l7 y7 z7 st7 hQ7
  subst l7 y7 z7
  obtain ⟨rfl, N7q, hq7⟩ := hQ7
  have N7 := Fr.app N0 N7q
  have pre8 : Go p e bl T7 (mkF m 11 #[rv a1] [(.double kk), (.double d1)]) s1 EF := fun t k => pre6 t (st7.trans k)
  have e7 : T7.heap = h0 := hq7
  have pre9 : Go p e bl T7 (mkF m 12 #[rv a1] [(.double (FP.dmul d1 kk))]) s1 EF := fun t k => pre8 t (by
   exact XS.dmulS X7.here hx rfl (v := (FP.dmul d1 kk)) (B d4_11) rfl hfin.noNaN rfl k)
  exact fin1 X7 (v := some (.double (FP.dmul d1 kk))) hrt hlk (wl rfl) (wl rfl) (by rw [e7]; exact ⟨rfl, N7, rfl⟩) (fun fs hr => hEF ▸ pre9 _ (retOut X7 hx Bd.returns rfl (Or.inr (Or.inr (Or.inl ⟨rfl, rfl, _, rfl⟩))) (B d4_12) hr))
theorem pn4 : plainName "com/example/uni_repos/unirepos/geo/DistanceInKilometersPinLaw" = true := by first | (simp [plainName, overriddenIn]; done) | decide +kernel
theorem pd4 : parseMethodDescriptor "(DLcom/example/uni_repos/unirepos/geo/Metrics;)V" = some ⟨[.double, (.object "com/example/uni_repos/unirepos/geo/Metrics")], none⟩ := by decide +kernel
theorem efL (m : MethodId) (p1 : Int64) (p2 : Int32) (p3 : Int32) : entryFrame m #[(.long p1), (.int p2), (.int p3)] maxLocals = mkF m 0 #[.val (.long p1), .second, iv p2, iv p3, .unset, .unset, .unset, .unset, .unset, .unset, .unset, .unset, .unset, .unset] [] := by first | (simp [entryFrame, mkF, argsToLocals, Value.category, maxLocals]; done) | rfl
def QL (Z : State) (p1 : Int64) (p2 : Int32) (p3 : Int32) (w0 : Addr) (w1 : Addr) (h0 : Heap) (n0 : Nat) (v : Option Value) (h : Heap) (L : List Loc) : Prop := v = some (.int 1) ∧ Fr n0 L
set_option maxRecDepth 65536 in
set_option maxHeartbeats 40000000 in
theorem rmL (l : Launch) (Z : State) (a0 : Array Value) (hw : HW a0 Z) (ws : List Jvm.Cond) (p1 : Int64) (p2 : Int32) (p3 : Int32) (w0 : Addr) (w1 : Addr) (h0 : Heap) (n0 : Nat) (Z0 : n0 ≤ h0.size) (O0 : Old Z n0 h0) (S0 : Sta Z Z.heap "com/example/uni_repos/unirepos/geo/Metrics" "MILES" "Lcom/example/uni_repos/unirepos/geo/Metrics;" (.ref w0)) (S1 : Sta Z Z.heap "com/example/uni_repos/unirepos/geo/Metrics" "KILOMETERS" "Lcom/example/uni_repos/unirepos/geo/Metrics;" (.ref w1)) (E0 : Exa Z Z.heap w0 "com/example/uni_repos/unirepos/geo/Metrics") (E1 : Exa Z Z.heap w1 "com/example/uni_repos/unirepos/geo/Metrics") (F0 : Fld Z Z.heap w0 "com/example/uni_repos/unirepos/geo/Metrics" "kilometers" "D" (.double (4609926660211357856 : UInt64))) (F1 : Fld Z Z.heap w1 "com/example/uni_repos/unirepos/geo/Metrics" "kilometers" "D" (.double (4607182418800017408 : UInt64))) :
    MetFree l x (head1 (Jvm.Cond.code x code maxLocals ret :: ws) room_1) (fun a U => a = #[(.long p1), (.int p2), (.int p3)] ∧ Z.Warmed39 U.vm ∧ U.heap = h0) (fun _ _ _ _ _ => True) (fun _ U o U' => ∃ v L, o = .returned v ∧ QL Z p1 p2 p3 w0 w1 h0 n0 v U'.heap L ∧ ReturnedEndW U o U' L room_1.cells room_1.slots) := by
  refine MetFree.of_bodySF (plainFor_of_name pn4) hisR ?_
  intro p e s m args bl meth c s1 Bd hml0 hP hK
  obtain ⟨rfl, hZ, hh⟩ := hP
  have hx := Bd.exec
  have hby := Bd.bytes
  have B := @hb c _ hby
  have hM := fun {n : Nat} (h : n = maxLocals) => h.trans hml0.symm
  have hown : s.vm.findClass "com/example/uni_repos/unirepos/geo/DistanceInKilometersPinLaw" = some m.cls := findClass_of_methodNamed Bd.named
  have X0 : Stand p l e room_1 (s.setVm s.vm) m #[(.long p1), (.int p2), (.int p3)] bl meth c s1 [] 0 0 := Stand.of_body Bd
  have e0 : s1.heap = h0 := by rw [← hh, Bd.state]; rfl
  have N0 := Fr.nil n0
  obtain ⟨EF, hEF⟩ : ∃ f, f = entryFrame m #[(.long p1), (.int p2), (.int p3)] maxLocals := ⟨_, rfl⟩
  have pre0 : Go p e bl s1 (mkF m 0 #[.val (.long p1), .second, iv p2, iv p3, .unset, .unset, .unset, .unset, .unset, .unset, .unset, .unset, .unset, .unset] []) s1 EF := fun t k => by rw [hEF]; exact castTop (efL m p1 p2 p3) k
  have hZ0 : Z.Warmed39 (s.setVm s.vm).vm := hZ
  have hown0 : (s.setVm s.vm).vm.findClass "com/example/uni_repos/unirepos/geo/DistanceInKilometersPinLaw" = some m.cls := hown
  have hS0 : s.Since s.vm s.heap.size := (State.WarmedH.refl s).since _
  have hk0 : s.heap.size ≤ h0.size := by rw [← hh]; exact Nat.le_refl _
  obtain ⟨mm, e_mm⟩ : ∃ z : Int64, z = (p1 &&& (9223372036854775807 : Int64)) := ⟨_, rfl⟩
  obtain ⟨dd, e_dd⟩ : ∃ z : Int32, z = ((p2 &&& (65535 : Int32)) + (1 : Int32)) := ⟨_, rfl⟩
  have pre1 : Go p e bl s1 (mkF m 15 #[.val (.long p1), .second, iv p2, iv p3, .val (.long mm), .second, iv dd, .unset, .unset, .unset, .unset, .unset, .unset, .unset] []) s1 EF := fun t k => pre0 t (by
   refine XT.lloadN X0.here hx rfl (B at_0) rfl ?_
   refine X0.ldc2Long hx hown0 (mvT hZ0 (hw _ (mW 0 rfl))) (g := (mkF m 1 #[.val (.long p1), .second, iv p2, iv p3, .unset, .unset, .unset, .unset, .unset, .unset, .unset, .unset, .unset, .unset] [(.long p1)])) rfl (B at_1) _ ?_
   refine XT.land X0.here hx rfl (B at_4) rfl ?_
   refine XT.lstore X0.here hx rfl (B at_5) rfl (l' := #[.val (.long p1), .second, iv p2, iv p3, .val (.long mm), .second, .unset, .unset, .unset, .unset, .unset, .unset, .unset, .unset]) (by rw [e_mm]; rfl) ?_
   refine XS.iloadN X0.here hx rfl (B at_7) rfl ?_
   refine X0.ldcInt hx hown0 (mvT hZ0 (hw _ (mW 1 rfl))) (g := (mkF m 8 #[.val (.long p1), .second, iv p2, iv p3, .val (.long mm), .second, .unset, .unset, .unset, .unset, .unset, .unset, .unset, .unset] [(.int p2)])) rfl (B at_8) _ ?_
   refine XS.iand X0.here hx rfl (B at_10) rfl ?_
   refine XS.iconst X0.here hx rfl (B at_11) ?_
   refine XS.iadd X0.here hx rfl (B at_12) rfl ?_
   exact XS.istore X0.here hx rfl (B at_13) rfl (l' := #[.val (.long p1), .second, iv p2, iv p3, .val (.long mm), .second, iv dd, .unset, .unset, .unset, .unset, .unset, .unset, .unset]) (by rw [e_dd]; rfl) k)
  have rm : 0 ≤ mm.toInt := e_mm ▸ own_m63 _
  have rd : 0 < dd.toInt := e_dd ▸ own_d _
  have hpos := own_pos rm rd
  have pre2 : Go p e bl s1 (mkF m 27 #[.val (.long p1), .second, iv p2, iv p3, .val (.long mm), .second, iv dd, .val (.double (quo mm dd)), .second, .unset, .unset, .unset, .unset, .unset] [(.int (p3 &&& (1 : Int32)))]) s1 EF := fun t k => pre1 t (by
   refine XT.lload X0.here hx rfl (B at_15) rfl ?_
   refine XS.l2dS X0.here hx rfl (v := FP.l2d mm) (B at_17) rfl rfl ?_
   refine XS.iload X0.here hx rfl (B at_18) rfl ?_
   refine XS.i2dS X0.here hx rfl (v := FP.i2d dd) (B at_20) rfl rfl ?_
   refine XS.ddivS X0.here hx rfl (v := (quo mm dd)) (B at_21) rfl (own_nn rd) rfl ?_
   refine XS.dstore X0.here hx rfl (B at_22) rfl (l' := #[.val (.long p1), .second, iv p2, iv p3, .val (.long mm), .second, iv dd, .val (.double (quo mm dd)), .second, .unset, .unset, .unset, .unset, .unset]) rfl ?_
   refine XS.iloadN X0.here hx rfl (B at_24) rfl ?_
   refine XS.iconst X0.here hx rfl (B at_25) ?_
   exact XS.iand X0.here hx rfl (B at_26) rfl k)
  by_cases hc27 : (p3 &&& (1 : Int32)) = (0 : Int32)
  · have pre3 : Go p e bl s1 (mkF m 34 #[.val (.long p1), .second, iv p2, iv p3, .val (.long mm), .second, iv dd, .val (.double (quo mm dd)), .second, .unset, .unset, .unset, .unset, .unset] []) s1 EF := fun t k => pre2 t (XS.ifYes X0.here hx rfl (pc0 := 27) (pc' := 34) rfl (B at_27) rfl ((if0 _ _).trans (teq hc27).1) (by decide) (by decide) k)
    have pre4 : Go p e bl s1 (mkF m 39 #[.val (.long p1), .second, iv p2, iv p3, .val (.long mm), .second, iv dd, .val (.double (quo mm dd)), .second, iv (0 : Int32), .unset, .unset, .unset, .unset] [(.int (0 : Int32))]) s1 EF := fun t k => pre3 t (by
     refine XS.iconst X0.here hx rfl (B at_34) ?_
     refine XS.istore X0.here hx rfl (B at_35) rfl (l' := #[.val (.long p1), .second, iv p2, iv p3, .val (.long mm), .second, iv dd, .val (.double (quo mm dd)), .second, iv (0 : Int32), .unset, .unset, .unset, .unset]) rfl ?_
     exact XS.iload X0.here hx rfl (B at_37) rfl k)
    have pre5 : Go p e bl s1 (mkF m 48 #[.val (.long p1), .second, iv p2, iv p3, .val (.long mm), .second, iv dd, .val (.double (quo mm dd)), .second, iv (0 : Int32), .unset, .unset, .unset, .unset] []) s1 EF := fun t k => pre4 t (XS.ifYes X0.here hx rfl (pc0 := 39) (pc' := 48) rfl (B at_39) rfl ((if0 _ _).trans (teq (by decide : (0 : Int32) = (0 : Int32))).1) (by decide) (by decide) k)
    obtain ⟨T6, X6, e6, st6⟩ := getS2 X0 hx hZ0 hown0 (host := "") (Or.inl (hw _ (mW 57 rfl))) Via.refl e0 (S1.ext O0.2) (g := (mkF m 48 #[.val (.long p1), .second, iv p2, iv p3, .val (.long mm), .second, iv dd, .val (.double (quo mm dd)), .second, iv (0 : Int32), .unset, .unset, .unset, .unset] [])) rfl (B at_48)
    have pre7 : Go p e bl T6 (mkF m 51 #[.val (.long p1), .second, iv p2, iv p3, .val (.long mm), .second, iv dd, .val (.double (quo mm dd)), .second, iv (0 : Int32), .unset, .unset, .unset, .unset] [(.ref w1)]) s1 EF := fun t k => pre5 t (st6 t k)
    have pre8 : Go p e bl T6 (mkF m 53 #[.val (.long p1), .second, iv p2, iv p3, .val (.long mm), .second, iv dd, .val (.double (quo mm dd)), .second, iv (0 : Int32), rv w1, .unset, .unset, .unset] []) s1 EF := fun t k => pre7 t (by
     exact XS.astore X6.here hx rfl (B at_51) rfl rfl (l' := #[.val (.long p1), .second, iv p2, iv p3, .val (.long mm), .second, iv dd, .val (.double (quo mm dd)), .second, iv (0 : Int32), rv w1, .unset, .unset, .unset]) rfl k)
    obtain ⟨T9, h9, X9, e9, Et9, A9, D9, U9, st9⟩ := newO X6 hx hZ0 hown0 (hw _ (mW 5 rfl)) (hw _ (mW 6 rfl)) (hw _ (mW 7 rfl)) e6 (g := (mkF m 53 #[.val (.long p1), .second, iv p2, iv p3, .val (.long mm), .second, iv dd, .val (.double (quo mm dd)), .second, iv (0 : Int32), rv w1, .unset, .unset, .unset] [])) rfl (B at_53) (by decide) (by decide)
    obtain ⟨b9, g9⟩ : ∃ z, z = h0.size := ⟨_, rfl⟩
    rw [← g9] at A9 st9 D9
    have g_b9 : n0 ≤ b9 := Nat.le_trans Z0 (Nat.le_of_eq g9.symm)
    have pre10 : Go p e bl T9 (mkF m 56 #[.val (.long p1), .second, iv p2, iv p3, .val (.long mm), .second, iv dd, .val (.double (quo mm dd)), .second, iv (0 : Int32), rv w1, .unset, .unset, .unset] [(.ref b9)]) s1 EF := fun t k => pre8 t (st9 t k)
    have O11 : Old Z n0 h9 := O0.ext Et9
    have Z11 : n0 ≤ h9.size := Nat.le_trans Z0 Et9.1
    have hk11 := Nat.le_trans hk0 Et9.1
    have F_value_b9 : Fld Z h9 b9 "com/example/uni_repos/unirepos/geo/Distance" "value" "D" (.double (0 : UInt64)) := D9 (Or.inr (hw _ (mW 48 rfl))) (ty := .double) (by decide)
    have F_unit_b9 : Fld Z h9 b9 "com/example/uni_repos/unirepos/geo/Distance" "unit" "Lcom/example/uni_repos/unirepos/geo/Metrics;" .null := D9 (Or.inr (hw _ (mW 50 rfl))) (ty := (.object "com/example/uni_repos/unirepos/geo/Metrics")) (by decide)
    have pre12 : Go p e bl T9 (mkF m 61 #[.val (.long p1), .second, iv p2, iv p3, .val (.long mm), .second, iv dd, .val (.double (quo mm dd)), .second, iv (0 : Int32), rv w1, .unset, .unset, .unset] [(.ref w1), (.double (quo mm dd)), (.ref b9), (.ref b9)]) s1 EF := fun t k => pre10 t (by
     refine XS.dup X9.here hx rfl (B at_56) rfl rfl ?_
     refine XS.dload X9.here hx rfl (B at_57) rfl ?_
     exact XS.aload X9.here hx rfl (B at_59) rfl rfl k)
    obtain ⟨_, _, ⟨T13, L13, k13, n13⟩, -, XQ13, hSQ13, hgQ13, ⟨Lc13, hQ13, l13, y13, z13⟩, st13⟩ := X9.specialBackS hx (y := mN4) rfl hown0 (mvT hZ0 (hw _ (mW 8 rfl))) (mvT hZ0 (hw _ (mW 9 rfl))) (mvT hZ0 (hw _ (mW 10 rfl))) (by decide) (backOfS (W := 1) (rmD l Z a0 hw [] b9 (quo mm dd) w1 (4607182418800017408 : UInt64) h9 n0 Z11 A9 g_b9 F_value_b9 F_unit_b9 (E1.ext O11.2) (F1.ext O11.2) hpos (own_fin rd own_K2)) hZ0 (hw _ (mW 10 rfl)) (hw _ (mW 7 rfl)) (by decide) (by decide)) (g := (mkF m 61 #[.val (.long p1), .second, iv p2, iv p3, .val (.long mm), .second, iv dd, .val (.double (quo mm dd)), .second, iv (0 : Int32), rv w1, .unset, .unset, .unset] [(.ref w1), (.double (quo mm dd)), (.ref b9), (.ref b9)])) rfl (hM rfl) (Steps.refl _) (a := b9) (argsL := [(.double (quo mm dd)), (.ref w1)]) (rest := [(.ref b9)]) (lenOf pd4 rfl) rfl (Nat.le_of_eq rfl) (B at_61) (fun _ _ => ⟨rfl, e9, wl rfl, wl rfl⟩)
    dsimp only [Pt.U, Pt.locs, Pt.cells, Pt.slots] at XQ13 hSQ13 hgQ13 l13 y13 z13 st13 hQ13
    subst l13 y13 z13
    obtain ⟨X13, hS13, hZ13, hown13⟩ := rebS hS0 (by rw [e9]; exact hk11) XQ13 hSQ13 hgQ13 hZ0 hown0
    obtain ⟨rfl, N13q, K13, ED13, FV13, FU13⟩ := hQ13
    have N13 := Fr.app N0 N13q
    have pre14 : Go p e bl T13 (mkF m 64 #[.val (.long p1), .second, iv p2, iv p3, .val (.long mm), .second, iv dd, .val (.double (quo mm dd)), .second, iv (0 : Int32), rv w1, .unset, .unset, .unset] [(.ref b9)]) s1 EF := fun t k => pre12 t (st13.trans k)
    have hk13 := Nat.le_refl T13.heap.size
    have O15 : Old Z n0 T13.heap := O11.keep K13 (allS g_b9 all0)
    have Z15 : n0 ≤ T13.heap.size := Nat.le_trans Z11 K13.1
    have pre16 : Go p e bl T13 (mkF m 68 #[.val (.long p1), .second, iv p2, iv p3, .val (.long mm), .second, iv dd, .val (.double (quo mm dd)), .second, iv (0 : Int32), rv w1, rv b9, .unset, .unset] [(.ref b9)]) s1 EF := fun t k => pre14 t (by
     refine XS.astore X13.here hx rfl (B at_64) rfl rfl (l' := #[.val (.long p1), .second, iv p2, iv p3, .val (.long mm), .second, iv dd, .val (.double (quo mm dd)), .second, iv (0 : Int32), rv w1, rv b9, .unset, .unset]) rfl ?_
     exact XS.aload X13.here hx rfl (B at_66) rfl rfl k)
    obtain ⟨cq17, kq17, q17a, q17b, q17c⟩ := isOf hZ13 rfl ED13
    obtain ⟨_, _, ⟨T17, L17, k17, n17⟩, -, X17, ⟨Lc17, hQ17, l17, y17, z17⟩, st17⟩ := X13.virtualBack hx (y := mN5) (z := mN5) hown13 (mvT hZ13 (hw _ (mW 51 rfl))) (mvT hZ13 (hw _ (mW 52 rfl))) (notFace_of_selects (args := #[]) (mvT hZ13 (hw _ (mW 54 rfl)))) (mvT hZ13 (hw _ (mW 54 rfl))) (mvT hZ13 (hw _ (mW 53 rfl))) (by decide) (backOf (W := 0) (rmI l Z a0 hw [] b9 w1 (quo mm dd) (4607182418800017408 : UInt64) T13.heap n0 Z15 FV13 FU13 (E1.ext O15.2) (F1.ext O15.2) (own_fin rd own_K2)) hZ13 (hw _ (mW 55 rfl)) (hw _ (mW 7 rfl)) (by decide) (by decide)) q17a q17c (g := (mkF m 68 #[.val (.long p1), .second, iv p2, iv p3, .val (.long mm), .second, iv dd, .val (.double (quo mm dd)), .second, iv (0 : Int32), rv w1, rv b9, .unset, .unset] [(.ref b9)])) rfl (hM rfl) (Steps.refl _) (argsL := []) (rest := []) (lenOf pd2 rfl) rfl (Nat.le_of_eq rfl) (B at_68) (fun _ _ => ⟨rfl, rfl, wl rfl, wl rfl⟩)
    dsimp only [Pt.U, Pt.locs, Pt.cells, Pt.slots] at X17 l17 y17 z17 st17 hQ17
    subst l17 y17 z17
    obtain ⟨rfl, N17q, hq17⟩ := hQ17
    have N17 := Fr.app N13 N17q
    have pre18 : Go p e bl T17 (mkF m 71 #[.val (.long p1), .second, iv p2, iv p3, .val (.long mm), .second, iv dd, .val (.double (quo mm dd)), .second, iv (0 : Int32), rv w1, rv b9, .unset, .unset] [(.double (FP.dmul (quo mm dd) (4607182418800017408 : UInt64)))]) s1 EF := fun t k => pre16 t (st17.trans k)
    have e17 : T17.heap = T13.heap := hq17
    have pre19 : Go p e bl T17 (mkF m 75 #[.val (.long p1), .second, iv p2, iv p3, .val (.long mm), .second, iv dd, .val (.double (quo mm dd)), .second, iv (0 : Int32), rv w1, rv b9, .val (.double (FP.dmul (quo mm dd) (4607182418800017408 : UInt64))), .second] [(.int (0 : Int32))]) s1 EF := fun t k => pre18 t (by
     refine XS.dstore X17.here hx rfl (B at_71) rfl (l' := #[.val (.long p1), .second, iv p2, iv p3, .val (.long mm), .second, iv dd, .val (.double (quo mm dd)), .second, iv (0 : Int32), rv w1, rv b9, .val (.double (FP.dmul (quo mm dd) (4607182418800017408 : UInt64))), .second]) rfl ?_
     exact XS.iload X17.here hx rfl (B at_73) rfl k)
    have pre20 : Go p e bl T17 (mkF m 96 #[.val (.long p1), .second, iv p2, iv p3, .val (.long mm), .second, iv dd, .val (.double (quo mm dd)), .second, iv (0 : Int32), rv w1, rv b9, .val (.double (FP.dmul (quo mm dd) (4607182418800017408 : UInt64))), .second] []) s1 EF := fun t k => pre19 t (XS.ifYes X17.here hx rfl (pc0 := 75) (pc' := 96) rfl (B at_75) rfl ((if0 _ _).trans (teq (by decide : (0 : Int32) = (0 : Int32))).1) (by decide) (by decide) k)
    have pre21 : Go p e bl T17 (mkF m 101 #[.val (.long p1), .second, iv p2, iv p3, .val (.long mm), .second, iv dd, .val (.double (quo mm dd)), .second, iv (0 : Int32), rv w1, rv b9, .val (.double (FP.dmul (quo mm dd) (4607182418800017408 : UInt64))), .second] [(.int (cmpValue (FP.dcmp (FP.dmul (quo mm dd) (4607182418800017408 : UInt64)) (quo mm dd)) .l))]) s1 EF := fun t k => pre20 t (by
     refine XS.dload X17.here hx rfl (B at_96) rfl ?_
     refine XS.dload X17.here hx rfl (B at_98) rfl ?_
     exact XS.dcmpS X17.here hx rfl (v := (cmpValue (FP.dcmp (FP.dmul (quo mm dd) (4607182418800017408 : UInt64)) (quo mm dd)) .l)) (B at_100) rfl rfl k)
    have pre22 : Go p e bl T17 (mkF m 104 #[.val (.long p1), .second, iv p2, iv p3, .val (.long mm), .second, iv dd, .val (.double (quo mm dd)), .second, iv (0 : Int32), rv w1, rv b9, .val (.double (FP.dmul (quo mm dd) (4607182418800017408 : UInt64))), .second] []) s1 EF := fun t k => pre21 t (XS.ifNo X17.here hx rfl (B at_101) rfl ((if0 _ _).trans (teq (dcmpV_eq (own_one rd) (own_fin rd own_K2).noNaN .l)).2) k)
    have pre23 : Go p e bl T17 (mkF m 109 #[.val (.long p1), .second, iv p2, iv p3, .val (.long mm), .second, iv dd, .val (.double (quo mm dd)), .second, iv (0 : Int32), rv w1, rv b9, .val (.double (FP.dmul (quo mm dd) (4607182418800017408 : UInt64))), .second] [(.int (1 : Int32))]) s1 EF := fun t k => pre22 t (by
     refine XS.iconst X17.here hx rfl (B at_104) ?_
     exact XS.goto X17.here hx rfl (pc0 := 105) (pc' := 109) rfl (B at_105) (by decide) (by decide) k)
    have hnr : Value.int (nar .boolean (1 : Int32)) = (.int (1 : Int32)) := by rfl
    obtain ⟨fs, hr, hrun, hended, hend1, hend2, hend3, hsame⟩ := X17.leaveW hS13 (by rw [e17]; exact hk13) (v := some (.int (1 : Int32))) (fun h => by rw [Bd.returns] at h; cases h)
    refine ⟨_, _, hEF ▸ pre23 _ (retN X17 hx (t := .boolean) Bd.returns (by simp) (B at_109) (hnr ▸ hr)), hrun, hended, _, _, rfl, ?_, hend1, hend2, hend3, hsame.mono (by decide) (by decide)⟩
    show QL Z p1 p2 p3 w0 w1 h0 n0 _ T17.heap _
    rw [e17]
    exact ⟨rfl, N17⟩
  have pre24 : Go p e bl s1 (mkF m 30 #[.val (.long p1), .second, iv p2, iv p3, .val (.long mm), .second, iv dd, .val (.double (quo mm dd)), .second, .unset, .unset, .unset, .unset, .unset] []) s1 EF := fun t k => pre2 t (XS.ifNo X0.here hx rfl (B at_27) rfl ((if0 _ _).trans (feq hc27).1) k)
  have pre25 : Go p e bl s1 (mkF m 39 #[.val (.long p1), .second, iv p2, iv p3, .val (.long mm), .second, iv dd, .val (.double (quo mm dd)), .second, iv (1 : Int32), .unset, .unset, .unset, .unset] [(.int (1 : Int32))]) s1 EF := fun t k => pre24 t (by
   refine XS.iconst X0.here hx rfl (B at_30) ?_
   refine XS.goto X0.here hx rfl (pc0 := 31) (pc' := 35) rfl (B at_31) (by decide) (by decide) ?_
   refine XS.istore X0.here hx rfl (B at_35) rfl (l' := #[.val (.long p1), .second, iv p2, iv p3, .val (.long mm), .second, iv dd, .val (.double (quo mm dd)), .second, iv (1 : Int32), .unset, .unset, .unset, .unset]) rfl ?_
   exact XS.iload X0.here hx rfl (B at_37) rfl k)
  have pre26 : Go p e bl s1 (mkF m 42 #[.val (.long p1), .second, iv p2, iv p3, .val (.long mm), .second, iv dd, .val (.double (quo mm dd)), .second, iv (1 : Int32), .unset, .unset, .unset, .unset] []) s1 EF := fun t k => pre25 t (XS.ifNo X0.here hx rfl (B at_39) rfl ((if0 _ _).trans (feq (by decide : ¬ ((1 : Int32) = (0 : Int32)))).1) k)
  obtain ⟨T27, X27, e27, st27⟩ := getS2 X0 hx hZ0 hown0 (host := "") (Or.inl (hw _ (mW 2 rfl))) Via.refl e0 (S0.ext O0.2) (g := (mkF m 42 #[.val (.long p1), .second, iv p2, iv p3, .val (.long mm), .second, iv dd, .val (.double (quo mm dd)), .second, iv (1 : Int32), .unset, .unset, .unset, .unset] [])) rfl (B at_42)
  have pre28 : Go p e bl T27 (mkF m 45 #[.val (.long p1), .second, iv p2, iv p3, .val (.long mm), .second, iv dd, .val (.double (quo mm dd)), .second, iv (1 : Int32), .unset, .unset, .unset, .unset] [(.ref w0)]) s1 EF := fun t k => pre26 t (st27 t k)
  have pre29 : Go p e bl T27 (mkF m 53 #[.val (.long p1), .second, iv p2, iv p3, .val (.long mm), .second, iv dd, .val (.double (quo mm dd)), .second, iv (1 : Int32), rv w0, .unset, .unset, .unset] []) s1 EF := fun t k => pre28 t (by
   refine XS.goto X27.here hx rfl (pc0 := 45) (pc' := 51) rfl (B at_45) (by decide) (by decide) ?_
   exact XS.astore X27.here hx rfl (B at_51) rfl rfl (l' := #[.val (.long p1), .second, iv p2, iv p3, .val (.long mm), .second, iv dd, .val (.double (quo mm dd)), .second, iv (1 : Int32), rv w0, .unset, .unset, .unset]) rfl k)
  obtain ⟨T30, h30, X30, e30, Et30, A30, D30, U30, st30⟩ := newO X27 hx hZ0 hown0 (hw _ (mW 5 rfl)) (hw _ (mW 6 rfl)) (hw _ (mW 7 rfl)) e27 (g := (mkF m 53 #[.val (.long p1), .second, iv p2, iv p3, .val (.long mm), .second, iv dd, .val (.double (quo mm dd)), .second, iv (1 : Int32), rv w0, .unset, .unset, .unset] [])) rfl (B at_53) (by decide) (by decide)
  obtain ⟨b30, g30⟩ : ∃ z, z = h0.size := ⟨_, rfl⟩
  rw [← g30] at A30 st30 D30
  have g_b30 : n0 ≤ b30 := Nat.le_trans Z0 (Nat.le_of_eq g30.symm)
  have pre31 : Go p e bl T30 (mkF m 56 #[.val (.long p1), .second, iv p2, iv p3, .val (.long mm), .second, iv dd, .val (.double (quo mm dd)), .second, iv (1 : Int32), rv w0, .unset, .unset, .unset] [(.ref b30)]) s1 EF := fun t k => pre29 t (st30 t k)
  have O32 : Old Z n0 h30 := O0.ext Et30
  have Z32 : n0 ≤ h30.size := Nat.le_trans Z0 Et30.1
  have hk32 := Nat.le_trans hk0 Et30.1
  have F_value_b30 : Fld Z h30 b30 "com/example/uni_repos/unirepos/geo/Distance" "value" "D" (.double (0 : UInt64)) := D30 (Or.inr (hw _ (mW 48 rfl))) (ty := .double) (by decide)
  have F_unit_b30 : Fld Z h30 b30 "com/example/uni_repos/unirepos/geo/Distance" "unit" "Lcom/example/uni_repos/unirepos/geo/Metrics;" .null := D30 (Or.inr (hw _ (mW 50 rfl))) (ty := (.object "com/example/uni_repos/unirepos/geo/Metrics")) (by decide)
  have pre33 : Go p e bl T30 (mkF m 61 #[.val (.long p1), .second, iv p2, iv p3, .val (.long mm), .second, iv dd, .val (.double (quo mm dd)), .second, iv (1 : Int32), rv w0, .unset, .unset, .unset] [(.ref w0), (.double (quo mm dd)), (.ref b30), (.ref b30)]) s1 EF := fun t k => pre31 t (by
   refine XS.dup X30.here hx rfl (B at_56) rfl rfl ?_
   refine XS.dload X30.here hx rfl (B at_57) rfl ?_
   exact XS.aload X30.here hx rfl (B at_59) rfl rfl k)
  obtain ⟨_, _, ⟨T34, L34, k34, n34⟩, -, XQ34, hSQ34, hgQ34, ⟨Lc34, hQ34, l34, y34, z34⟩, st34⟩ := X30.specialBackS hx (y := mN4) rfl hown0 (mvT hZ0 (hw _ (mW 8 rfl))) (mvT hZ0 (hw _ (mW 9 rfl))) (mvT hZ0 (hw _ (mW 10 rfl))) (by decide) (backOfS (W := 1) (rmD l Z a0 hw [] b30 (quo mm dd) w0 (4609926660211357856 : UInt64) h30 n0 Z32 A30 g_b30 F_value_b30 F_unit_b30 (E0.ext O32.2) (F0.ext O32.2) hpos (own_fin rd own_K1)) hZ0 (hw _ (mW 10 rfl)) (hw _ (mW 7 rfl)) (by decide) (by decide)) (g := (mkF m 61 #[.val (.long p1), .second, iv p2, iv p3, .val (.long mm), .second, iv dd, .val (.double (quo mm dd)), .second, iv (1 : Int32), rv w0, .unset, .unset, .unset] [(.ref w0), (.double (quo mm dd)), (.ref b30), (.ref b30)])) rfl (hM rfl) (Steps.refl _) (a := b30) (argsL := [(.double (quo mm dd)), (.ref w0)]) (rest := [(.ref b30)]) (lenOf pd4 rfl) rfl (Nat.le_of_eq rfl) (B at_61) (fun _ _ => ⟨rfl, e30, wl rfl, wl rfl⟩)
  dsimp only [Pt.U, Pt.locs, Pt.cells, Pt.slots] at XQ34 hSQ34 hgQ34 l34 y34 z34 st34 hQ34
  subst l34 y34 z34
  obtain ⟨X34, hS34, hZ34, hown34⟩ := rebS hS0 (by rw [e30]; exact hk32) XQ34 hSQ34 hgQ34 hZ0 hown0
  obtain ⟨rfl, N34q, K34, ED34, FV34, FU34⟩ := hQ34
  have N34 := Fr.app N0 N34q
  have pre35 : Go p e bl T34 (mkF m 64 #[.val (.long p1), .second, iv p2, iv p3, .val (.long mm), .second, iv dd, .val (.double (quo mm dd)), .second, iv (1 : Int32), rv w0, .unset, .unset, .unset] [(.ref b30)]) s1 EF := fun t k => pre33 t (st34.trans k)
  have hk34 := Nat.le_refl T34.heap.size
  have O36 : Old Z n0 T34.heap := O32.keep K34 (allS g_b30 all0)
  have Z36 : n0 ≤ T34.heap.size := Nat.le_trans Z32 K34.1
  have pre37 : Go p e bl T34 (mkF m 68 #[.val (.long p1), .second, iv p2, iv p3, .val (.long mm), .second, iv dd, .val (.double (quo mm dd)), .second, iv (1 : Int32), rv w0, rv b30, .unset, .unset] [(.ref b30)]) s1 EF := fun t k => pre35 t (by
   refine XS.astore X34.here hx rfl (B at_64) rfl rfl (l' := #[.val (.long p1), .second, iv p2, iv p3, .val (.long mm), .second, iv dd, .val (.double (quo mm dd)), .second, iv (1 : Int32), rv w0, rv b30, .unset, .unset]) rfl ?_
   exact XS.aload X34.here hx rfl (B at_66) rfl rfl k)
  obtain ⟨cq38, kq38, q38a, q38b, q38c⟩ := isOf hZ34 rfl ED34
  obtain ⟨_, _, ⟨T38, L38, k38, n38⟩, -, X38, ⟨Lc38, hQ38, l38, y38, z38⟩, st38⟩ := X34.virtualBack hx (y := mN5) (z := mN5) hown34 (mvT hZ34 (hw _ (mW 51 rfl))) (mvT hZ34 (hw _ (mW 52 rfl))) (notFace_of_selects (args := #[]) (mvT hZ34 (hw _ (mW 54 rfl)))) (mvT hZ34 (hw _ (mW 54 rfl))) (mvT hZ34 (hw _ (mW 53 rfl))) (by decide) (backOf (W := 0) (rmI l Z a0 hw [] b30 w0 (quo mm dd) (4609926660211357856 : UInt64) T34.heap n0 Z36 FV34 FU34 (E0.ext O36.2) (F0.ext O36.2) (own_fin rd own_K1)) hZ34 (hw _ (mW 55 rfl)) (hw _ (mW 7 rfl)) (by decide) (by decide)) q38a q38c (g := (mkF m 68 #[.val (.long p1), .second, iv p2, iv p3, .val (.long mm), .second, iv dd, .val (.double (quo mm dd)), .second, iv (1 : Int32), rv w0, rv b30, .unset, .unset] [(.ref b30)])) rfl (hM rfl) (Steps.refl _) (argsL := []) (rest := []) (lenOf pd2 rfl) rfl (Nat.le_of_eq rfl) (B at_68) (fun _ _ => ⟨rfl, rfl, wl rfl, wl rfl⟩)
  dsimp only [Pt.U, Pt.locs, Pt.cells, Pt.slots] at X38 l38 y38 z38 st38 hQ38
  subst l38 y38 z38
  obtain ⟨rfl, N38q, hq38⟩ := hQ38
  have N38 := Fr.app N34 N38q
  have pre39 : Go p e bl T38 (mkF m 71 #[.val (.long p1), .second, iv p2, iv p3, .val (.long mm), .second, iv dd, .val (.double (quo mm dd)), .second, iv (1 : Int32), rv w0, rv b30, .unset, .unset] [(.double (FP.dmul (quo mm dd) (4609926660211357856 : UInt64)))]) s1 EF := fun t k => pre37 t (st38.trans k)
  have e38 : T38.heap = T34.heap := hq38
  have pre40 : Go p e bl T38 (mkF m 75 #[.val (.long p1), .second, iv p2, iv p3, .val (.long mm), .second, iv dd, .val (.double (quo mm dd)), .second, iv (1 : Int32), rv w0, rv b30, .val (.double (FP.dmul (quo mm dd) (4609926660211357856 : UInt64))), .second] [(.int (1 : Int32))]) s1 EF := fun t k => pre39 t (by
   refine XS.dstore X38.here hx rfl (B at_71) rfl (l' := #[.val (.long p1), .second, iv p2, iv p3, .val (.long mm), .second, iv dd, .val (.double (quo mm dd)), .second, iv (1 : Int32), rv w0, rv b30, .val (.double (FP.dmul (quo mm dd) (4609926660211357856 : UInt64))), .second]) rfl ?_
   exact XS.iload X38.here hx rfl (B at_73) rfl k)
  have pre41 : Go p e bl T38 (mkF m 78 #[.val (.long p1), .second, iv p2, iv p3, .val (.long mm), .second, iv dd, .val (.double (quo mm dd)), .second, iv (1 : Int32), rv w0, rv b30, .val (.double (FP.dmul (quo mm dd) (4609926660211357856 : UInt64))), .second] []) s1 EF := fun t k => pre40 t (XS.ifNo X38.here hx rfl (B at_75) rfl ((if0 _ _).trans (feq (by decide : ¬ ((1 : Int32) = (0 : Int32)))).1) k)
  have pre42 : Go p e bl T38 (mkF m 87 #[.val (.long p1), .second, iv p2, iv p3, .val (.long mm), .second, iv dd, .val (.double (quo mm dd)), .second, iv (1 : Int32), rv w0, rv b30, .val (.double (FP.dmul (quo mm dd) (4609926660211357856 : UInt64))), .second] [(.int (cmpValue (FP.dcmp (FP.dmul (quo mm dd) (4609926660211357856 : UInt64)) (FP.dmul (quo mm dd) (4609926660211357856 : UInt64))) .l))]) s1 EF := fun t k => pre41 t (by
   refine XS.dload X38.here hx rfl (B at_78) rfl ?_
   refine XS.dload X38.here hx rfl (B at_80) rfl ?_
   refine X38.ldc2DoubleC hx hown34 (mvT hZ34 (hw _ (mW 56 rfl))) (g := (mkF m 82 #[.val (.long p1), .second, iv p2, iv p3, .val (.long mm), .second, iv dd, .val (.double (quo mm dd)), .second, iv (1 : Int32), rv w0, rv b30, .val (.double (FP.dmul (quo mm dd) (4609926660211357856 : UInt64))), .second] [(.double (quo mm dd)), (.double (FP.dmul (quo mm dd) (4609926660211357856 : UInt64)))])) rfl (B at_82) _ ?_
   refine XS.dmulS X38.here hx rfl (v := (FP.dmul (quo mm dd) (4609926660211357856 : UInt64))) (B at_85) rfl (own_fin (m := mm) rd own_K1).noNaN rfl ?_
   exact XS.dcmpS X38.here hx rfl (v := (cmpValue (FP.dcmp (FP.dmul (quo mm dd) (4609926660211357856 : UInt64)) (FP.dmul (quo mm dd) (4609926660211357856 : UInt64))) .l)) (B at_86) rfl rfl k)
  have pre43 : Go p e bl T38 (mkF m 90 #[.val (.long p1), .second, iv p2, iv p3, .val (.long mm), .second, iv dd, .val (.double (quo mm dd)), .second, iv (1 : Int32), rv w0, rv b30, .val (.double (FP.dmul (quo mm dd) (4609926660211357856 : UInt64))), .second] []) s1 EF := fun t k => pre42 t (XS.ifNo X38.here hx rfl (B at_87) rfl ((if0 _ _).trans (teq (dcmpV_self (own_fin rd own_K1).noNaN .l)).2) k)
  have pre44 : Go p e bl T38 (mkF m 95 #[.val (.long p1), .second, iv p2, iv p3, .val (.long mm), .second, iv dd, .val (.double (quo mm dd)), .second, iv (1 : Int32), rv w0, rv b30, .val (.double (FP.dmul (quo mm dd) (4609926660211357856 : UInt64))), .second] [(.int (1 : Int32))]) s1 EF := fun t k => pre43 t (by
   refine XS.iconst X38.here hx rfl (B at_90) ?_
   exact XS.goto X38.here hx rfl (pc0 := 91) (pc' := 95) rfl (B at_91) (by decide) (by decide) k)
  have hnr : Value.int (nar .boolean (1 : Int32)) = (.int (1 : Int32)) := by rfl
  obtain ⟨fs, hr, hrun, hended, hend1, hend2, hend3, hsame⟩ := X38.leaveW hS34 (by rw [e38]; exact hk34) (v := some (.int (1 : Int32))) (fun h => by rw [Bd.returns] at h; cases h)
  refine ⟨_, _, hEF ▸ pre44 _ (retN X38 hx (t := .boolean) Bd.returns (by simp) (B at_95) (hnr ▸ hr)), hrun, hended, _, _, rfl, ?_, hend1, hend2, hend3, hsame.mono (by decide) (by decide)⟩
  show QL Z p1 p2 p3 w0 w1 h0 n0 _ T38.heap _
  rw [e38]
  exact ⟨rfl, N38⟩
set_option maxRecDepth 65536 in
set_option maxHeartbeats 40000000 in
theorem comes_1 {Post : Tables → Env → Array Value → State → Outcome → State → Prop} (hpost : ∀ tb e args s v u, (limb_1_1.after args s (.returned v) u = true ∧ limb_1_2.after args s (.returned v) u = true ∧ True) → ReturnedEndW s (.returned v) u (Jvm.fieldLocs frame_1_writes args s ++ Jvm.arrayLocs frame_1_arrays args s ++ Jvm.staticLocs frame_1_statics s) 16 1152 → Post tb e args s (.returned v) u) :
    ArmFor flags0 classFile x code maxLocals ret World_1 tables_1 room_1 Calls_1 rest_1 Pre_1 Post := by
  intro l hfl _ _ p e ha hc hk s m args below hf hA hF happ hP
  obtain ⟨hcalls, hrest, hpre⟩ := hP
  obtain ⟨-, -, -, hnamed, -, -, -, hat⟩ := (Spec.applies_iff hf).mp happ
  obtain ⟨hg, hn⟩ := and_e (Cond.before_iff.mp (show (Jvm.Cond.and given_1 narrow_1).before args s = true from hpre))
  obtain ⟨hg0, hgr0⟩ := and_e hg
  obtain ⟨hg1, hgr1⟩ := and_e hgr0
  obtain ⟨hg2, hg3⟩ := and_e hgr1
  obtain ⟨w0, w1, w2, rfl⟩ : ∃ w0 w1 w2 : Value, args = #[w0, w1, w2] := by
    have hs : args.size = 3 := by simpa [Cond.value, given_1] using hg0
    obtain ⟨L⟩ := args
    match L, hs with
    | [w0, w1, w2], _ => exact ⟨w0, w1, w2, rfl⟩
  have hw := fun d (hd : d ∈ tables_1) => atoms_spec (ws := Jvm.Cond.code x code maxLocals ret :: tables_1) hat d (List.mem_cons_of_mem _ hd)
  have hfit : Fit s := fun {y c} hc i hi => by
    obtain ⟨ha, rfl⟩ := Array.getElem?_eq_some_iff.mp hc
    have q := List.all_eq_true.mp ((Array.all_eq_true_iff_forall_mem.mp hF) _ (Array.getElem_mem ha)) i (List.mem_range.mpr hi)
    simpa [Array.getElem?_eq_getElem hi] using q
  obtain ⟨x0, ei0⟩ := isL_v hg1
  obtain rfl : w0 = (.long x0) := Option.some.inj ei0
  obtain ⟨x1, ei1⟩ := is_v hg2
  obtain rfl : w1 = (.int x1) := Option.some.inj ei1
  obtain ⟨x2, ei2⟩ := is_v hg3
  obtain rfl : w2 = (.int x2) := Option.some.inj ei2
  obtain ⟨nr0, nr1⟩ := and_e hn
  obtain ⟨nr2, nr3⟩ := and_e nr1
  obtain ⟨nr4, nr5⟩ := and_e nr3
  obtain ⟨a0, ev0⟩ := exa_v nr0
  have E0 : Exa s s.heap a0 "com/example/uni_repos/unirepos/geo/Metrics" := Exa.start ev0 nr0
  have S0 : Sta s s.heap "com/example/uni_repos/unirepos/geo/Metrics" "MILES" "Lcom/example/uni_repos/unirepos/geo/Metrics;" (.ref a0) := Sta.start ev0 (Or.inr ⟨(hw _ (mW 3 rfl)), (hw _ (mW 4 rfl))⟩)
  have F0 : Fld s s.heap a0 "com/example/uni_repos/unirepos/geo/Metrics" "kilometers" "D" (.double (4609926660211357856 : UInt64)) := own_fldD ev0 nr2
  obtain ⟨a1, ev1⟩ := exa_v nr4
  have E1 : Exa s s.heap a1 "com/example/uni_repos/unirepos/geo/Metrics" := Exa.start ev1 nr4
  have S1 : Sta s s.heap "com/example/uni_repos/unirepos/geo/Metrics" "KILOMETERS" "Lcom/example/uni_repos/unirepos/geo/Metrics;" (.ref a1) := Sta.start ev1 (Or.inr ⟨(hw _ (mW 3 rfl)), (hw _ (mW 58 rfl))⟩)
  have F1 : Fld s s.heap a1 "com/example/uni_repos/unirepos/geo/Metrics" "kilometers" "D" (.double (4607182418800017408 : UInt64)) := own_fldD ev1 nr5
  obtain ⟨n, o, h1, h2, h3, _, L, rfl, ⟨rfl, N⟩, hq⟩ := rmL l s _ hw tables_1 x0 x1 x2 a0 a1 s.heap s.heap.size (Nat.le_refl _) (Old.start s) S0 S1 E0 E1 F0 F1 p e ha hc hk s m _ below hf ((Spec.applies_iff_loose hf).mp happ).1 ⟨rfl, State.Warmed39.refl s, rfl⟩ trivial
  refine ⟨n, _, h1, h2, h3, hpost _ _ _ _ _ _ ⟨Cond.after_iff.mpr rfl, Cond.after_iff.mpr (eq_i res_at (Term.int_eval (1)) rfl), trivial⟩ ⟨hq.1, hq.2.1, hq.2.2.1, (hq.2.2.2.sift fun y hy => Or.inr (N y hy)).mono (by decide) (by decide)⟩⟩
theorem main_1_1 : Claimed_1_1 := comes_1 fun _ _ _ _ _ _ h hF => ⟨h.1, hF.1, hF.2.1, hF.2.2.1, hF.2.2.2⟩
theorem main_1_2 : Claimed_1_2 := comes_1 fun _ _ _ _ _ _ h hF => ⟨h.2.1, hF.1, hF.2.1, hF.2.2.1, hF.2.2.2⟩
end Jvm.Pilot.@@N@@
namespace Jvm.Pilot.@@N@@
open Jvm Jvm.ClassFile Sem Op Lib Jvm.Free Jvm.Stand Jvm.Pilot.@@N@@.Jvm.D
/-! MADE BY PROGRAM (witnessworld.py) out of the Statement's table words and the real class files: 21 classes; the members and pool entries that the words name. The judged class is class 1, her method 1. -/
namespace start1
open Jvm.ClassFile
def u (s : String) : CpInfo := .utf8 (stringToUtf16 s)
/-- a pool by its gaps: so many unusable entries, then the entry; so many at the end -/
def gap : Nat → List CpInfo → List CpInfo
  | 0, r => r
  | n + 1, r => .unusable :: gap n r
def poolList (es : List (Nat × CpInfo)) (last : Nat) : List CpInfo := es.foldr (fun e r => gap e.1 (e.2 :: r)) (gap last [])
def pool (es : List (Nat × CpInfo)) (last : Nat) : Array CpInfo := ⟨poolList es last⟩
def fileOf (pool : Array CpInfo) (this : Nat) (attrs : Array Attribute := #[]) (ms : Array MethodInfo := #[]) (fl : Nat := 33) (sup : Nat := 0) (ifs : Array Nat := #[]) (fds : Array FieldInfo := #[]) : ClassFile where
  minorVersion := 0
  majorVersion := 65
  constantPool := pool
  accessFlags := fl
  thisClass := this
  superClass := sup
  interfaces := ifs
  fields := fds
  methods := ms
  attributes := attrs
def plain (name : String) (sup : Option ClassId) : Class where
  name := name
  kind := .ordinary
  loader := none
  accessFlags := 33
  super := sup
  interfaces := #[]
  cf := none
  fields := #[]
  methods := #[]
  instanceTypes := #[]
  staticTypes := #[]
  resolved := #[]
  callSites := []
  init := .initialized
  statics := none
  mirror := none

def pool0 : Array CpInfo := pool [(5, u "<init>"), (0, u "()V"), (1, .class_ 10), (1, u "java/lang/Object")] 113

def k0c0 : Code := { maxStack := 0, maxLocals := 1, code := object_method_1_code, exceptionTable := #[], attributes := #[] }
def k0m0 : Method := { name := "<init>", desc := "()V", sig := { parameters := [], returnType := none }, accessFlags := 1, code := some k0c0 }
/-- java/lang/Object -/
def k0 : Class := { plain "java/lang/Object" none with
  accessFlags := 33
  interfaces := #[]
  cf := some (fileOf pool0 8 #[] #[{ accessFlags := 1, nameIndex := 5, descriptorIndex := 6, attributes := #[] }] 33 0 #[] #[])
  fields := #[]
  methods := #[k0m0]
  instanceTypes := #[]
  staticTypes := #[]
  resolved := Array.replicate 124 none
  statics := none }

def pool1 : Array CpInfo := pool [(2, .class_ 4), (1, u "java/lang/Object"), (0, u "<init>"), (0, u "()V"), (0, .long 9223372036854775807), (1, .integer 65535), (0, .fieldref 11 12), (0, .class_ 13), (0, .nameAndType 14 15), (0, u "com/example/uni_repos/unirepos/geo/Metrics"), (0, u "MILES"), (0, u "Lcom/example/uni_repos/unirepos/geo/Metrics;"), (0, .fieldref 11 17), (0, .nameAndType 18 15), (0, u "KILOMETERS"), (0, .class_ 20), (0, u "com/example/uni_repos/unirepos/geo/Distance"), (0, .methodref 19 22), (0, .nameAndType 5 23), (0, u "(DLcom/example/uni_repos/unirepos/geo/Metrics;)V"), (0, .methodref 19 25), (0, .nameAndType 26 27), (0, u "inKilometers"), (0, u "()D"), (0, .double 4609926660211357856), (1, .class_ 31), (0, u "com/example/uni_repos/unirepos/geo/DistanceInKilometersPinLaw"), (2, u "law"), (0, u "(JII)Z")] 3

def k1m0 : Method := { name := "<init>", desc := "()V", sig := { parameters := [], returnType := none }, accessFlags := 1, code := none }
def k1c1 : Code := { maxStack := 6, maxLocals := 14, code := code, exceptionTable := #[], attributes := #[] }
def k1m1 : Method := { name := "law", desc := "(JII)Z", sig := { parameters := [.long, .int, .int], returnType := some .boolean }, accessFlags := 9, code := some k1c1 }
/-- com/example/uni_repos/unirepos/geo/DistanceInKilometersPinLaw -/
def k1 : Class := { plain "com/example/uni_repos/unirepos/geo/DistanceInKilometersPinLaw" (some 0) with
  accessFlags := 49
  interfaces := #[]
  cf := some (fileOf pool1 30 #[] #[{ accessFlags := 1, nameIndex := 5, descriptorIndex := 6, attributes := #[] }, { accessFlags := 9, nameIndex := 34, descriptorIndex := 35, attributes := #[] }] 49 2 #[] #[])
  fields := #[]
  methods := #[k1m0, k1m1]
  instanceTypes := #[]
  staticTypes := #[]
  resolved := Array.replicate 39 none
  statics := none }

def pool2 : Array CpInfo := pool [(1, .class_ 2), (0, u "java/lang/constant/Constable"), (0, .class_ 4), (0, u "java/lang/Object")] 6

/-- java/lang/constant/Constable -/
def k2 : Class := { plain "java/lang/constant/Constable" (some 0) with
  accessFlags := 1537
  interfaces := #[]
  cf := some (fileOf pool2 1 #[] #[] 1537 3 #[] #[])
  fields := #[]
  methods := #[]
  instanceTypes := #[]
  staticTypes := #[]
  resolved := Array.replicate 11 none
  statics := none }

def pool3 : Array CpInfo := pool [(1, .class_ 2), (0, u "java/lang/Comparable"), (0, .class_ 4), (0, u "java/lang/Object")] 7

/-- java/lang/Comparable -/
def k3 : Class := { plain "java/lang/Comparable" (some 0) with
  accessFlags := 1537
  interfaces := #[]
  cf := some (fileOf pool3 1 #[] #[] 1537 3 #[] #[])
  fields := #[]
  methods := #[]
  instanceTypes := #[]
  staticTypes := #[]
  resolved := Array.replicate 12 none
  statics := none }

def pool4 : Array CpInfo := pool [(1, .class_ 2), (0, u "java/io/Serializable"), (0, .class_ 4), (0, u "java/lang/Object")] 2

/-- java/io/Serializable -/
def k4 : Class := { plain "java/io/Serializable" (some 0) with
  accessFlags := 1537
  interfaces := #[]
  cf := some (fileOf pool4 1 #[] #[] 1537 3 #[] #[])
  fields := #[]
  methods := #[]
  instanceTypes := #[]
  staticTypes := #[]
  resolved := Array.replicate 7 none
  statics := none }

def pool5 : Array CpInfo := pool [(2, .class_ 4), (1, u "java/lang/Enum"), (0, u "name"), (0, u "Ljava/lang/String;"), (2, u "ordinal"), (0, u "I"), (1, .class_ 14), (1, u "java/lang/Object"), (4, u "hash"), (86, .class_ 108), (1, u "java/lang/Enum$EnumDesc"), (2, .class_ 112), (0, u "java/lang/constant/Constable"), (0, .class_ 114), (0, u "java/lang/Comparable"), (0, .class_ 116), (0, u "java/io/Serializable")] 87

/-- java/lang/Enum -/
def k5 : Class := { plain "java/lang/Enum" (some 0) with
  accessFlags := 1057
  interfaces := #[2, 3, 4]
  cf := some (fileOf pool5 2 #[.nestMembers #[106]] #[] 1057 12 #[111, 113, 115] #[{ accessFlags := 18, nameIndex := 5, descriptorIndex := 6, attributes := #[] }, { accessFlags := 18, nameIndex := 9, descriptorIndex := 10, attributes := #[] }, { accessFlags := 2, nameIndex := 19, descriptorIndex := 10, attributes := #[] }])
  fields := #[{ name := "name", type := (.object "java/lang/String"), accessFlags := 18, slot := 0, constantValue := 0 }, { name := "ordinal", type := .int, accessFlags := 18, slot := 1, constantValue := 0 }, { name := "hash", type := .int, accessFlags := 2, slot := 2, constantValue := 0 }]
  methods := #[]
  instanceTypes := #[(.object "java/lang/String"), .int, .int]
  staticTypes := #[]
  resolved := Array.replicate 204 none
  statics := none }

def pool6 : Array CpInfo := pool [(1, .class_ 2), (0, u "com/example/uni_repos/unirepos/geo/Metrics"), (2, u "KILOMETERS"), (0, u "Lcom/example/uni_repos/unirepos/geo/Metrics;"), (2, u "MILES"), (2, u "$VALUES"), (0, u "[Lcom/example/uni_repos/unirepos/geo/Metrics;"), (6, .class_ 22), (1, u "java/lang/Enum"), (6, .fieldref 1 30), (0, .nameAndType 31 32), (0, u "kilometers"), (0, u "D"), (18, u "()D")] 5

def k6c0 : Code := { maxStack := 2, maxLocals := 1, code := prog_22_method_4_code, exceptionTable := #[], attributes := #[] }
def k6m0 : Method := { name := "kilometers", desc := "()D", sig := { parameters := [], returnType := some .double }, accessFlags := 1, code := some k6c0 }
/-- com/example/uni_repos/unirepos/geo/Metrics -/
def k6 : Class := { plain "com/example/uni_repos/unirepos/geo/Metrics" (some 5) with
  accessFlags := 16433
  interfaces := #[]
  cf := some (fileOf pool6 1 #[] #[{ accessFlags := 1, nameIndex := 31, descriptorIndex := 51, attributes := #[] }] 16433 20 #[] #[{ accessFlags := 16409, nameIndex := 5, descriptorIndex := 6, attributes := #[] }, { accessFlags := 16409, nameIndex := 9, descriptorIndex := 6, attributes := #[] }, { accessFlags := 18, nameIndex := 31, descriptorIndex := 32, attributes := #[] }, { accessFlags := 4122, nameIndex := 12, descriptorIndex := 13, attributes := #[] }])
  fields := #[{ name := "KILOMETERS", type := (.object "com/example/uni_repos/unirepos/geo/Metrics"), accessFlags := 16409, slot := 0, constantValue := 0 }, { name := "MILES", type := (.object "com/example/uni_repos/unirepos/geo/Metrics"), accessFlags := 16409, slot := 1, constantValue := 0 }, { name := "kilometers", type := .double, accessFlags := 18, slot := 3, constantValue := 0 }, { name := "$VALUES", type := (.array (.object "com/example/uni_repos/unirepos/geo/Metrics")), accessFlags := 4122, slot := 2, constantValue := 0 }]
  methods := #[k6m0]
  instanceTypes := #[(.object "java/lang/String"), .int, .int, .double]
  staticTypes := #[(.object "com/example/uni_repos/unirepos/geo/Metrics"), (.object "com/example/uni_repos/unirepos/geo/Metrics"), (.array (.object "com/example/uni_repos/unirepos/geo/Metrics"))]
  resolved := Array.replicate 57 none
  statics := some 0 }

def pool7 : Array CpInfo := pool [(1, .methodref 2 3), (0, .class_ 4), (0, .nameAndType 5 6), (0, u "java/lang/Object"), (0, u "<init>"), (0, u "()V"), (0, .class_ 8), (0, u "java/lang/Record")] 13

def k7c0 : Code := { maxStack := 1, maxLocals := 1, code := jdk_30_method_1_code, exceptionTable := #[], attributes := #[] }
def k7m0 : Method := { name := "<init>", desc := "()V", sig := { parameters := [], returnType := none }, accessFlags := 4, code := some k7c0 }
/-- java/lang/Record -/
def k7 : Class := { plain "java/lang/Record" (some 0) with
  accessFlags := 1057
  interfaces := #[]
  cf := some (fileOf pool7 7 #[] #[{ accessFlags := 4, nameIndex := 5, descriptorIndex := 6, attributes := #[] }] 1057 2 #[] #[])
  fields := #[]
  methods := #[k7m0]
  instanceTypes := #[]
  staticTypes := #[]
  resolved := Array.replicate 22 none
  statics := none }

def pool8 : Array CpInfo := pool [(1, .methodref 2 3), (0, .class_ 4), (0, .nameAndType 5 6), (0, u "java/lang/Record"), (0, u "<init>"), (0, u "()V"), (0, .string 8), (0, u "unit"), (0, .methodref 10 11), (0, .class_ 12), (0, .nameAndType 13 14), (0, u "java/util/Objects"), (0, u "requireNonNull"), (0, u "(Ljava/lang/Object;Ljava/lang/String;)Ljava/lang/Object;"), (9, .methodref 25 26), (0, .class_ 27), (0, .nameAndType 28 29), (0, u "com/example/uni_repos/unirepos/geo/Metrics"), (0, u "kilometers"), (0, u "()D"), (0, .methodref 31 32), (0, .class_ 33), (0, .nameAndType 34 35), (0, u "java/lang/Double"), (0, u "isInfinite"), (0, u "(D)Z"), (9, .fieldref 46 47), (0, .class_ 48), (0, .nameAndType 49 50), (0, u "com/example/uni_repos/unirepos/geo/Distance"), (0, u "value"), (0, u "D"), (0, .fieldref 46 52), (0, .nameAndType 8 53), (0, u "Lcom/example/uni_repos/unirepos/geo/Metrics;"), (12, u "(DLcom/example/uni_repos/unirepos/geo/Metrics;)V"), (4, u "inKilometers")] 35

def k8c0 : Code := { maxStack := 5, maxLocals := 4, code := prog_20_method_1_code, exceptionTable := #[], attributes := #[] }
def k8m0 : Method := { name := "<init>", desc := "(DLcom/example/uni_repos/unirepos/geo/Metrics;)V", sig := { parameters := [.double, (.object "com/example/uni_repos/unirepos/geo/Metrics")], returnType := none }, accessFlags := 1, code := some k8c0 }
def k8c1 : Code := { maxStack := 4, maxLocals := 1, code := prog_20_method_2_code, exceptionTable := #[], attributes := #[] }
def k8m1 : Method := { name := "inKilometers", desc := "()D", sig := { parameters := [], returnType := some .double }, accessFlags := 1, code := some k8c1 }
/-- com/example/uni_repos/unirepos/geo/Distance -/
def k8 : Class := { plain "com/example/uni_repos/unirepos/geo/Distance" (some 7) with
  accessFlags := 49
  interfaces := #[]
  cf := some (fileOf pool8 46 #[] #[{ accessFlags := 1, nameIndex := 5, descriptorIndex := 66, attributes := #[] }, { accessFlags := 1, nameIndex := 71, descriptorIndex := 29, attributes := #[] }] 49 2 #[] #[{ accessFlags := 18, nameIndex := 49, descriptorIndex := 50, attributes := #[] }, { accessFlags := 18, nameIndex := 8, descriptorIndex := 53, attributes := #[] }])
  fields := #[{ name := "value", type := .double, accessFlags := 18, slot := 0, constantValue := 0 }, { name := "unit", type := (.object "com/example/uni_repos/unirepos/geo/Metrics"), accessFlags := 18, slot := 1, constantValue := 0 }]
  methods := #[k8m0, k8m1]
  instanceTypes := #[.double, (.object "com/example/uni_repos/unirepos/geo/Metrics")]
  staticTypes := #[]
  resolved := Array.replicate 107 none
  statics := none }

def pool9 : Array CpInfo := pool [(2, .class_ 4), (1, u "java/lang/CharSequence"), (42, .class_ 48), (0, u "java/lang/CharSequence$1CodePointIterator"), (10, .class_ 60), (0, u "java/lang/CharSequence$1CharIterator"), (5, .class_ 67), (0, u "java/lang/Object")] 63

/-- java/lang/CharSequence -/
def k9 : Class := { plain "java/lang/CharSequence" (some 0) with
  accessFlags := 1537
  interfaces := #[]
  cf := some (fileOf pool9 2 #[.nestMembers #[47, 59]] #[] 1537 66 #[] #[])
  fields := #[]
  methods := #[]
  instanceTypes := #[]
  staticTypes := #[]
  resolved := Array.replicate 131 none
  statics := none }

def pool10 : Array CpInfo := pool [(1, .class_ 2), (0, u "java/lang/constant/ConstantDesc"), (0, .class_ 4), (0, u "java/lang/Object")] 32

/-- java/lang/constant/ConstantDesc -/
def k10 : Class := { plain "java/lang/constant/ConstantDesc" (some 0) with
  accessFlags := 1537
  interfaces := #[]
  cf := some (fileOf pool10 1 #[] #[] 1537 3 #[] #[])
  fields := #[]
  methods := #[]
  instanceTypes := #[]
  staticTypes := #[]
  resolved := Array.replicate 37 none
  statics := none }

def pool11 : Array CpInfo := pool [(2, .class_ 4), (1, u "java/lang/Object"), (0, u "<init>"), (0, u "()V"), (3, .class_ 12), (1, u "java/lang/String"), (0, u "value"), (0, u "[B"), (2, u "coder"), (0, u "B"), (2, u "hash"), (0, u "I"), (2, u "hashIsZero"), (0, u "Z"), (13, u "COMPACT_STRINGS"), (534, .class_ 576), (0, u "java/lang/CharSequence"), (22, u "CASE_INSENSITIVE_ORDER"), (0, u "Ljava/util/Comparator;"), (500, u "serialPersistentFields"), (0, u "[Ljava/io/ObjectStreamField;"), (0, .class_ 1104), (0, u "java/lang/String$CaseInsensitiveComparator"), (1, .class_ 1107), (0, u "java/io/Serializable"), (0, .class_ 1109), (0, u "java/lang/Comparable"), (0, .class_ 1111), (0, u "java/lang/constant/Constable"), (0, .class_ 1113), (0, u "java/lang/constant/ConstantDesc"), (2, u "serialVersionUID"), (0, u "J"), (3, u "REPL"), (0, u "C"), (2, u "LATIN1"), (1, u "UTF16")] 323

def k11m0 : Method := { name := "<init>", desc := "()V", sig := { parameters := [], returnType := none }, accessFlags := 1, code := none }
/-- java/lang/String -/
def k11 : Class := { plain "java/lang/String" (some 0) with
  accessFlags := 49
  interfaces := #[4, 3, 9, 2, 10]
  cf := some (fileOf pool11 10 #[.nestMembers #[1103]] #[{ accessFlags := 1, nameIndex := 5, descriptorIndex := 6, attributes := #[] }] 49 2 #[1106, 1108, 575, 1110, 1112] #[{ accessFlags := 18, nameIndex := 13, descriptorIndex := 14, attributes := #[] }, { accessFlags := 18, nameIndex := 17, descriptorIndex := 18, attributes := #[] }, { accessFlags := 2, nameIndex := 21, descriptorIndex := 22, attributes := #[] }, { accessFlags := 2, nameIndex := 25, descriptorIndex := 26, attributes := #[] }, { accessFlags := 26, nameIndex := 1116, descriptorIndex := 1117, attributes := #[] }, { accessFlags := 24, nameIndex := 40, descriptorIndex := 26, attributes := #[] }, { accessFlags := 26, nameIndex := 1101, descriptorIndex := 1102, attributes := #[] }, { accessFlags := 26, nameIndex := 1121, descriptorIndex := 1122, attributes := #[] }, { accessFlags := 25, nameIndex := 599, descriptorIndex := 600, attributes := #[] }, { accessFlags := 24, nameIndex := 1125, descriptorIndex := 18, attributes := #[] }, { accessFlags := 24, nameIndex := 1127, descriptorIndex := 18, attributes := #[] }])
  fields := #[{ name := "value", type := (.array .byte), accessFlags := 18, slot := 0, constantValue := 0 }, { name := "coder", type := .byte, accessFlags := 18, slot := 1, constantValue := 0 }, { name := "hash", type := .int, accessFlags := 2, slot := 2, constantValue := 0 }, { name := "hashIsZero", type := .boolean, accessFlags := 2, slot := 3, constantValue := 0 }, { name := "serialVersionUID", type := .long, accessFlags := 26, slot := 0, constantValue := 0 }, { name := "COMPACT_STRINGS", type := .boolean, accessFlags := 24, slot := 1, constantValue := 0 }, { name := "serialPersistentFields", type := (.array (.object "java/io/ObjectStreamField")), accessFlags := 26, slot := 2, constantValue := 0 }, { name := "REPL", type := .char, accessFlags := 26, slot := 3, constantValue := 0 }, { name := "CASE_INSENSITIVE_ORDER", type := (.object "java/util/Comparator"), accessFlags := 25, slot := 4, constantValue := 0 }, { name := "LATIN1", type := .byte, accessFlags := 24, slot := 5, constantValue := 0 }, { name := "UTF16", type := .byte, accessFlags := 24, slot := 6, constantValue := 0 }]
  methods := #[k11m0]
  instanceTypes := #[(.array .byte), .byte, .int, .boolean]
  staticTypes := #[.long, .boolean, (.array (.object "java/io/ObjectStreamField")), .char, (.object "java/util/Comparator"), .byte, .byte]
  resolved := Array.replicate 1451 none
  statics := none }

def pool12 : Array CpInfo := pool [(2, .class_ 4), (1, u "java/lang/Object"), (0, u "<init>"), (0, u "()V"), (35, .class_ 44), (1, u "java/util/Objects"), (0, u "requireNonNull"), (48, u "(Ljava/lang/Object;Ljava/lang/String;)Ljava/lang/Object;")] 89

def k12m0 : Method := { name := "<init>", desc := "()V", sig := { parameters := [], returnType := none }, accessFlags := 2, code := none }
def k12c1 : Code := { maxStack := 3, maxLocals := 2, code := jdk_31_method_11_code, exceptionTable := #[], attributes := #[] }
def k12m1 : Method := { name := "requireNonNull", desc := "(Ljava/lang/Object;Ljava/lang/String;)Ljava/lang/Object;", sig := { parameters := [(.object "java/lang/Object"), (.object "java/lang/String")], returnType := some (.object "java/lang/Object") }, accessFlags := 9, code := some k12c1 }
/-- java/util/Objects -/
def k12 : Class := { plain "java/util/Objects" (some 0) with
  accessFlags := 49
  interfaces := #[]
  cf := some (fileOf pool12 42 #[] #[{ accessFlags := 2, nameIndex := 5, descriptorIndex := 6, attributes := #[] }, { accessFlags := 9, nameIndex := 45, descriptorIndex := 94, attributes := #[] }] 49 2 #[] #[])
  fields := #[]
  methods := #[k12m0, k12m1]
  instanceTypes := #[]
  staticTypes := #[]
  resolved := Array.replicate 184 none
  statics := none }

def pool13 : Array CpInfo := pool [(2, .class_ 4), (1, u "java/lang/Object"), (0, u "<init>"), (0, u "()V"), (1, .class_ 10), (1, u "java/lang/Number"), (2, .class_ 14), (0, u "java/io/Serializable"), (0, u "serialVersionUID"), (0, u "J")] 20

def k13m0 : Method := { name := "<init>", desc := "()V", sig := { parameters := [], returnType := none }, accessFlags := 1, code := none }
/-- java/lang/Number -/
def k13 : Class := { plain "java/lang/Number" (some 0) with
  accessFlags := 1057
  interfaces := #[4]
  cf := some (fileOf pool13 8 #[] #[{ accessFlags := 1, nameIndex := 5, descriptorIndex := 6, attributes := #[] }] 1057 2 #[13] #[{ accessFlags := 26, nameIndex := 15, descriptorIndex := 16, attributes := #[] }])
  fields := #[{ name := "serialVersionUID", type := .long, accessFlags := 26, slot := 0, constantValue := 0 }]
  methods := #[k13m0]
  instanceTypes := #[]
  staticTypes := #[.long]
  resolved := Array.replicate 37 none
  statics := none }

def pool14 : Array CpInfo := pool [(1, .class_ 2), (0, u "java/lang/Double"), (11, u "(D)Z"), (8, .class_ 25), (1, u "java/lang/Math"), (12, .methodref 23 39), (0, .nameAndType 40 41), (0, u "abs"), (0, u "(D)D"), (69, .double 9218868437227405311), (2, .class_ 116), (1, u "java/lang/Number"), (3, u "value"), (0, u "D"), (5, u "isInfinite"), (45, u "TYPE"), (0, u "Ljava/lang/Class;"), (0, .class_ 176), (0, u "java/lang/Comparable"), (0, .class_ 178), (0, u "java/lang/constant/Constable"), (0, .class_ 180), (0, u "java/lang/constant/ConstantDesc"), (0, u "POSITIVE_INFINITY"), (3, u "NEGATIVE_INFINITY"), (2, u "NaN"), (2, u "MAX_VALUE"), (0, u "MIN_NORMAL"), (0, u "MIN_VALUE"), (2, u "SIZE"), (0, u "I"), (1, u "PRECISION"), (1, u "MAX_EXPONENT"), (1, u "MIN_EXPONENT"), (1, u "BYTES"), (3, u "serialVersionUID"), (0, u "J")] 79

def k14c0 : Code := { maxStack := 4, maxLocals := 2, code := jdk_117_method_7_code, exceptionTable := #[], attributes := #[] }
def k14m0 : Method := { name := "isInfinite", desc := "(D)Z", sig := { parameters := [.double], returnType := some .boolean }, accessFlags := 9, code := some k14c0 }
/-- java/lang/Double -/
def k14 : Class := { plain "java/lang/Double" (some 13) with
  accessFlags := 49
  interfaces := #[3, 2, 10]
  cf := some (fileOf pool14 1 #[] #[{ accessFlags := 9, nameIndex := 127, descriptorIndex := 14, attributes := #[] }] 49 114 #[175, 177, 179] #[{ accessFlags := 25, nameIndex := 181, descriptorIndex := 121, attributes := #[] }, { accessFlags := 25, nameIndex := 185, descriptorIndex := 121, attributes := #[] }, { accessFlags := 25, nameIndex := 188, descriptorIndex := 121, attributes := #[] }, { accessFlags := 25, nameIndex := 191, descriptorIndex := 121, attributes := #[] }, { accessFlags := 25, nameIndex := 192, descriptorIndex := 121, attributes := #[] }, { accessFlags := 25, nameIndex := 193, descriptorIndex := 121, attributes := #[] }, { accessFlags := 25, nameIndex := 196, descriptorIndex := 197, attributes := #[] }, { accessFlags := 25, nameIndex := 199, descriptorIndex := 197, attributes := #[] }, { accessFlags := 25, nameIndex := 201, descriptorIndex := 197, attributes := #[] }, { accessFlags := 25, nameIndex := 203, descriptorIndex := 197, attributes := #[] }, { accessFlags := 25, nameIndex := 205, descriptorIndex := 197, attributes := #[] }, { accessFlags := 25, nameIndex := 173, descriptorIndex := 174, attributes := #[] }, { accessFlags := 18, nameIndex := 120, descriptorIndex := 121, attributes := #[] }, { accessFlags := 26, nameIndex := 209, descriptorIndex := 210, attributes := #[] }])
  fields := #[{ name := "POSITIVE_INFINITY", type := .double, accessFlags := 25, slot := 0, constantValue := 0 }, { name := "NEGATIVE_INFINITY", type := .double, accessFlags := 25, slot := 1, constantValue := 0 }, { name := "NaN", type := .double, accessFlags := 25, slot := 2, constantValue := 0 }, { name := "MAX_VALUE", type := .double, accessFlags := 25, slot := 3, constantValue := 0 }, { name := "MIN_NORMAL", type := .double, accessFlags := 25, slot := 4, constantValue := 0 }, { name := "MIN_VALUE", type := .double, accessFlags := 25, slot := 5, constantValue := 0 }, { name := "SIZE", type := .int, accessFlags := 25, slot := 6, constantValue := 0 }, { name := "PRECISION", type := .int, accessFlags := 25, slot := 7, constantValue := 0 }, { name := "MAX_EXPONENT", type := .int, accessFlags := 25, slot := 8, constantValue := 0 }, { name := "MIN_EXPONENT", type := .int, accessFlags := 25, slot := 9, constantValue := 0 }, { name := "BYTES", type := .int, accessFlags := 25, slot := 10, constantValue := 0 }, { name := "TYPE", type := (.object "java/lang/Class"), accessFlags := 25, slot := 11, constantValue := 0 }, { name := "value", type := .double, accessFlags := 18, slot := 0, constantValue := 0 }, { name := "serialVersionUID", type := .long, accessFlags := 26, slot := 12, constantValue := 0 }]
  methods := #[k14m0]
  instanceTypes := #[.double]
  staticTypes := #[.double, .double, .double, .double, .double, .double, .int, .int, .int, .int, .int, (.object "java/lang/Class"), .long]
  resolved := Array.replicate 290 none
  statics := none }

def pool15 : Array CpInfo := pool [(1, .class_ 2), (0, u "java/lang/Math"), (1, .class_ 6), (1, u "java/lang/Object"), (0, u "<init>"), (0, u "()V"), (5, u "(D)D"), (83, .class_ 100), (1, u "java/lang/Math$RandomNumberGeneratorHolder"), (23, u "abs"), (47, u "negativeZeroFloatBits"), (0, u "J"), (2, u "negativeZeroDoubleBits"), (68, u "$assertionsDisabled"), (0, u "Z"), (91, u "twoToTheDoubleScaleDown"), (0, u "D"), (4, u "twoToTheDoubleScaleUp"), (9, u "E"), (3, u "PI"), (2, u "TAU"), (2, u "DEGREES_TO_RADIANS"), (0, u "RADIANS_TO_DEGREES")] 94

def k15m0 : Method := { name := "<init>", desc := "()V", sig := { parameters := [], returnType := none }, accessFlags := 2, code := none }
def k15c1 : Code := { maxStack := 4, maxLocals := 2, code := jdk_29_method_64_code, exceptionTable := #[], attributes := #[] }
def k15m1 : Method := { name := "abs", desc := "(D)D", sig := { parameters := [.double], returnType := some .double }, accessFlags := 9, code := some k15c1 }
/-- java/lang/Math -/
def k15 : Class := { plain "java/lang/Math" (some 0) with
  accessFlags := 49
  interfaces := #[]
  cf := some (fileOf pool15 1 #[.nestMembers #[98]] #[{ accessFlags := 2, nameIndex := 7, descriptorIndex := 8, attributes := #[] }, { accessFlags := 9, nameIndex := 124, descriptorIndex := 14, attributes := #[] }] 49 4 #[] #[{ accessFlags := 25, nameIndex := 354, descriptorIndex := 339, attributes := #[] }, { accessFlags := 25, nameIndex := 358, descriptorIndex := 339, attributes := #[] }, { accessFlags := 25, nameIndex := 361, descriptorIndex := 339, attributes := #[] }, { accessFlags := 26, nameIndex := 364, descriptorIndex := 339, attributes := #[] }, { accessFlags := 26, nameIndex := 365, descriptorIndex := 339, attributes := #[] }, { accessFlags := 26, nameIndex := 172, descriptorIndex := 173, attributes := #[] }, { accessFlags := 26, nameIndex := 176, descriptorIndex := 173, attributes := #[] }, { accessFlags := 8, nameIndex := 344, descriptorIndex := 339, attributes := #[] }, { accessFlags := 8, nameIndex := 338, descriptorIndex := 339, attributes := #[] }, { accessFlags := 4120, nameIndex := 245, descriptorIndex := 246, attributes := #[] }])
  fields := #[{ name := "E", type := .double, accessFlags := 25, slot := 0, constantValue := 0 }, { name := "PI", type := .double, accessFlags := 25, slot := 1, constantValue := 0 }, { name := "TAU", type := .double, accessFlags := 25, slot := 2, constantValue := 0 }, { name := "DEGREES_TO_RADIANS", type := .double, accessFlags := 26, slot := 3, constantValue := 0 }, { name := "RADIANS_TO_DEGREES", type := .double, accessFlags := 26, slot := 4, constantValue := 0 }, { name := "negativeZeroFloatBits", type := .long, accessFlags := 26, slot := 5, constantValue := 0 }, { name := "negativeZeroDoubleBits", type := .long, accessFlags := 26, slot := 6, constantValue := 0 }, { name := "twoToTheDoubleScaleUp", type := .double, accessFlags := 8, slot := 7, constantValue := 0 }, { name := "twoToTheDoubleScaleDown", type := .double, accessFlags := 8, slot := 8, constantValue := 0 }, { name := "$assertionsDisabled", type := .boolean, accessFlags := 4120, slot := 9, constantValue := 0 }]
  methods := #[k15m0, k15m1]
  instanceTypes := #[]
  staticTypes := #[.double, .double, .double, .double, .double, .long, .long, .double, .double, .boolean]
  resolved := Array.replicate 460 none
  statics := none }

def pool16 : Array CpInfo := pool [(1, u "java/lang/Cloneable"), (0, .class_ 1), (0, u "java/lang/Object"), (0, .class_ 3)] 3

/-- java/lang/Cloneable -/
def k16 : Class := { plain "java/lang/Cloneable" (some 0) with
  accessFlags := 1537
  interfaces := #[]
  cf := some (fileOf pool16 2 #[] #[] 1537 4 #[] #[])
  fields := #[]
  methods := #[]
  instanceTypes := #[]
  staticTypes := #[]
  resolved := Array.replicate 8 none
  statics := none }

/-- the primitive byte -/
def k17 : Class := { plain "byte" none with kind := .primitive 'B', accessFlags := 0x411 }
/-- [B -/
def k18 : Class := { plain "[B" (some 0) with kind := .array 17 .byte, interfaces := #[16, 4], accessFlags := 1041 }

/-- the primitive int -/
def k19 : Class := { plain "int" none with kind := .primitive 'I', accessFlags := 0x411 }
/-- [I -/
def k20 : Class := { plain "[I" (some 0) with kind := .array 19 .int, interfaces := #[16, 4], accessFlags := 1041 }

def heap : Heap := #[{ cls := 6, slots := #[.ref 2, .ref 1, .null], vm := .statics 6 },
  { cls := 6, slots := #[.null, .int 0, .int 0, .double 4609926660211357856], vm := .none },
  { cls := 6, slots := #[.null, .int 1, .int 0, .double 4607182418800017408], vm := .none }]
def classes : Array Class := #[k0, k1, k2, k3, k4, k5, k6, k7, k8, k9, k10, k11, k12, k13, k14, k15, k16, k17, k18, k19, k20]
def interned : List (Array UInt16 × Addr) := []
def slotsUsed : Nat := 11
def theMethod : MethodId := ⟨1, 1⟩
def args0 : Array Value := #[.long 5, .int 7, .int 1]
def aboutOver (below : List Frame) : State where
  vm := { classes := classes, interned := interned.toArray }
  heap := heap
  slotsUsed := slotsUsed
  threads := #[{ frames := .invoking theMethod args0 :: below }]
def below0 : List Frame := [.native { method := ⟨0, 0⟩, args := #[] }]
def about1 : State := aboutOver below0
def p0 : Program := .bare "" "" ""
def e0 : Env := launch0.env 0 0 0
theorem w_frames : about1.frames = Frame.invoking theMethod args0 :: below0 := rfl
set_option maxRecDepth 65536 in
theorem w_args : argsFit about1.vm theMethod args0 = true := by decide +kernel
set_option maxRecDepth 65536 in
theorem w_heap : heapFits about1 = true := by decide +kernel
set_option maxRecDepth 65536 in
theorem w_runnable : about1.curStatus? = some .runnable := by decide +kernel
set_option maxRecDepth 65536 in
theorem w_alone : about1.alone = true := by decide +kernel
set_option maxRecDepth 65536 in
theorem w_named : about1.methodNamed? x = some theMethod := by decide +kernel
set_option maxRecDepth 65536 in
theorem w_hears : about1.hears theMethod below0 = true := by decide +kernel
set_option maxRecDepth 65536 in
theorem w_ripe : about1.ripe theMethod args0 below0 = true := by decide +kernel
theorem w_running : about1.status = .running := rfl
set_option maxRecDepth 65536 in
theorem w_room : about1.hasRoom e0.platform room_1 = true :=
  launch0.hasRoom_least _ room_1 (by decide +kernel) (by decide +kernel) (by decide +kernel) (by decide +kernel) (by decide +kernel) (by decide +kernel)
theorem allAtoms_all (ts : List Jvm.Cond) (a : Array Jvm.Value) (st : Jvm.State) : (allAtoms ts).before a st = ts.all (fun c => c.before a st) := by
  induction ts with
  | nil => rfl
  | cons c t ih =>
    show (Jvm.Cond.and c (allAtoms t)).before a st = _
    rw [Jvm.Cond.before_and, ih, List.all_cons]
def words1 : List Jvm.Cond := Jvm.Cond.code x code maxLocals ret :: tables_1
/-- a 'code' word, met by the world's own term for the bytes: nothing is compared byte by byte -/
theorem code_word {y : MethodName} {bytes : ByteArray} {mx : Nat} {rt : Option FieldType} {a : Array Value} {s : State} {m : MethodId} {meth : Method} {c : Code} (h1 : s.methodNamed? y = some m) (h2 : s.vm.method? m = some meth) (h3 : meth.code = some c) (h4 : c.code = bytes)
    (h5 : (c.maxLocals == mx && c.exceptionTable.isEmpty && decide (c.maxStack ≤ mostOperands) && decide (meth.sig.returnType = rt) && !meth.locks && decide (parseMethodDescriptor y.desc = some meth.sig)) = true) : (Jvm.Cond.code y bytes mx rt).before a s = true := by
  simp only [Bool.and_eq_true, beq_iff_eq, Bool.not_eq_true', decide_eq_true_eq] at h5
  obtain ⟨⟨⟨⟨⟨g1, g2⟩, g3⟩, g4⟩, g5⟩, g6⟩ := h5
  simp [Cond.before, Cond.holds, Cond.value, h1, h2, h3, h4, g1, g2, g3, g4, g5, g6]
def isCode : Jvm.Cond → Bool
  | .code _ _ _ _ => true
  | _ => false
theorem all_split {L : List Jvm.Cond} {P : Jvm.Cond → Bool} (h1 : L.all (fun c => isCode c || P c) = true) (h2 : ∀ c ∈ L.filter isCode, P c = true) : L.all P = true := by
  refine List.all_eq_true.mpr fun c hc => ?_
  have h := List.all_eq_true.mp h1 c hc
  rcases Bool.eq_false_or_eq_true (isCode c) with hi | hi
  · exact h2 c (List.mem_filter.mpr ⟨hc, hi⟩)
  · simpa [hi] using h
set_option maxRecDepth 65536 in
theorem w_c0 : (Jvm.Cond.code x code maxLocals ret).before args0 about1 = true := code_word (m := ⟨1, 1⟩) (meth := k1m1) (c := k1c1) (by decide +kernel) rfl rfl rfl (by decide +kernel)
set_option maxRecDepth 65536 in
theorem w_c1 : (Jvm.Cond.code ({ cls := "com/example/uni_repos/unirepos/geo/Distance", name := "<init>", desc := "(DLcom/example/uni_repos/unirepos/geo/Metrics;)V" } : Jvm.MethodName) prog_20_method_1_code (4 : Nat) (Option.none : Option Jvm.ClassFile.FieldType)).before args0 about1 = true := code_word (m := ⟨8, 0⟩) (meth := k8m0) (c := k8c0) (by decide +kernel) rfl rfl rfl (by decide +kernel)
set_option maxRecDepth 65536 in
theorem w_c2 : (Jvm.Cond.code ({ cls := "java/lang/Record", name := "<init>", desc := "()V" } : Jvm.MethodName) jdk_30_method_1_code (1 : Nat) (Option.none : Option Jvm.ClassFile.FieldType)).before args0 about1 = true := code_word (m := ⟨7, 0⟩) (meth := k7m0) (c := k7c0) (by decide +kernel) rfl rfl rfl (by decide +kernel)
set_option maxRecDepth 65536 in
theorem w_c3 : (Jvm.Cond.code ({ cls := "java/lang/Object", name := "<init>", desc := "()V" } : Jvm.MethodName) object_method_1_code (1 : Nat) (Option.none : Option Jvm.ClassFile.FieldType)).before args0 about1 = true := code_word (m := ⟨0, 0⟩) (meth := k0m0) (c := k0c0) (by decide +kernel) rfl rfl rfl (by decide +kernel)
set_option maxRecDepth 65536 in
theorem w_c4 : (Jvm.Cond.code ({ cls := "java/util/Objects", name := "requireNonNull", desc := "(Ljava/lang/Object;Ljava/lang/String;)Ljava/lang/Object;" } : Jvm.MethodName) jdk_31_method_11_code (2 : Nat) (Option.some (Jvm.ClassFile.FieldType.object "java/lang/Object"))).before args0 about1 = true := code_word (m := ⟨12, 1⟩) (meth := k12m1) (c := k12c1) (by decide +kernel) rfl rfl rfl (by decide +kernel)
set_option maxRecDepth 65536 in
theorem w_c5 : (Jvm.Cond.code ({ cls := "com/example/uni_repos/unirepos/geo/Metrics", name := "kilometers", desc := "()D" } : Jvm.MethodName) prog_22_method_4_code (1 : Nat) (Option.some Jvm.ClassFile.FieldType.double)).before args0 about1 = true := code_word (m := ⟨6, 0⟩) (meth := k6m0) (c := k6c0) (by decide +kernel) rfl rfl rfl (by decide +kernel)
set_option maxRecDepth 65536 in
theorem w_c6 : (Jvm.Cond.code ({ cls := "java/lang/Double", name := "isInfinite", desc := "(D)Z" } : Jvm.MethodName) jdk_117_method_7_code (2 : Nat) (Option.some Jvm.ClassFile.FieldType.boolean)).before args0 about1 = true := code_word (m := ⟨14, 0⟩) (meth := k14m0) (c := k14c0) (by decide +kernel) rfl rfl rfl (by decide +kernel)
set_option maxRecDepth 65536 in
theorem w_c7 : (Jvm.Cond.code ({ cls := "java/lang/Math", name := "abs", desc := "(D)D" } : Jvm.MethodName) jdk_29_method_64_code (2 : Nat) (Option.some Jvm.ClassFile.FieldType.double)).before args0 about1 = true := code_word (m := ⟨15, 1⟩) (meth := k15m1) (c := k15c1) (by decide +kernel) rfl rfl rfl (by decide +kernel)
set_option maxRecDepth 65536 in
theorem w_c8 : (Jvm.Cond.code ({ cls := "com/example/uni_repos/unirepos/geo/Distance", name := "inKilometers", desc := "()D" } : Jvm.MethodName) prog_20_method_2_code (1 : Nat) (Option.some Jvm.ClassFile.FieldType.double)).before args0 about1 = true := code_word (m := ⟨8, 1⟩) (meth := k8m1) (c := k8c1) (by decide +kernel) rfl rfl rfl (by decide +kernel)
def codes1 : List Jvm.Cond := [Jvm.Cond.code x code maxLocals ret, Jvm.Cond.code ({ cls := "com/example/uni_repos/unirepos/geo/Distance", name := "<init>", desc := "(DLcom/example/uni_repos/unirepos/geo/Metrics;)V" } : Jvm.MethodName) prog_20_method_1_code (4 : Nat) (Option.none : Option Jvm.ClassFile.FieldType), Jvm.Cond.code ({ cls := "java/lang/Record", name := "<init>", desc := "()V" } : Jvm.MethodName) jdk_30_method_1_code (1 : Nat) (Option.none : Option Jvm.ClassFile.FieldType), Jvm.Cond.code ({ cls := "java/lang/Object", name := "<init>", desc := "()V" } : Jvm.MethodName) object_method_1_code (1 : Nat) (Option.none : Option Jvm.ClassFile.FieldType), Jvm.Cond.code ({ cls := "java/util/Objects", name := "requireNonNull", desc := "(Ljava/lang/Object;Ljava/lang/String;)Ljava/lang/Object;" } : Jvm.MethodName) jdk_31_method_11_code (2 : Nat) (Option.some (Jvm.ClassFile.FieldType.object "java/lang/Object")), Jvm.Cond.code ({ cls := "com/example/uni_repos/unirepos/geo/Metrics", name := "kilometers", desc := "()D" } : Jvm.MethodName) prog_22_method_4_code (1 : Nat) (Option.some Jvm.ClassFile.FieldType.double), Jvm.Cond.code ({ cls := "java/lang/Double", name := "isInfinite", desc := "(D)Z" } : Jvm.MethodName) jdk_117_method_7_code (2 : Nat) (Option.some Jvm.ClassFile.FieldType.boolean), Jvm.Cond.code ({ cls := "java/lang/Math", name := "abs", desc := "(D)D" } : Jvm.MethodName) jdk_29_method_64_code (2 : Nat) (Option.some Jvm.ClassFile.FieldType.double), Jvm.Cond.code ({ cls := "com/example/uni_repos/unirepos/geo/Distance", name := "inKilometers", desc := "()D" } : Jvm.MethodName) prog_20_method_2_code (1 : Nat) (Option.some Jvm.ClassFile.FieldType.double)]
set_option maxRecDepth 65536 in
theorem codes_eq : words1.filter isCode = codes1 := rfl
theorem w_codes : ∀ c ∈ words1.filter isCode, c.before args0 about1 = true := by
  rw [codes_eq]
  intro c hc
  simp only [codes1, List.mem_cons, List.not_mem_nil, or_false] at hc
  rcases hc with rfl | rfl | rfl | rfl | rfl | rfl | rfl | rfl | rfl
  · exact w_c0
  · exact w_c1
  · exact w_c2
  · exact w_c3
  · exact w_c4
  · exact w_c5
  · exact w_c6
  · exact w_c7
  · exact w_c8
set_option maxRecDepth 65536 in
theorem w_t1 : (words1.take 24).all (fun c => isCode c || c.before args0 about1) = true := by decide +kernel
set_option maxRecDepth 65536 in
theorem w_t2 : ((words1.drop 24).take 24).all (fun c => isCode c || c.before args0 about1) = true := by decide +kernel
set_option maxRecDepth 65536 in
theorem w_t3 : ((words1.drop 24).drop 24).all (fun c => isCode c || c.before args0 about1) = true := by decide +kernel
theorem w_tables : (allAtoms (Jvm.Cond.code x code maxLocals ret :: tables_1)).before args0 about1 = true := by
  rw [allAtoms_all]
  show words1.all (fun c => c.before args0 about1) = true
  refine all_split ?_ w_codes
  rw [← List.take_append_drop 24 words1, List.all_append, w_t1, ← List.take_append_drop 24 (words1.drop 24), List.all_append, w_t2, w_t3]
  rfl
set_option maxRecDepth 65536 in
theorem w_case : (Jvm.Cond.and given_1 narrow_1).before args0 about1 = true := by decide +kernel
theorem w_applies : (headSpec (Jvm.Cond.code x code maxLocals ret :: tables_1) room_1).applies x e0.platform about1 = true :=
  (Spec.applies_iff w_frames).mpr ⟨w_running, w_runnable, w_alone, w_named, w_hears, w_ripe, w_room, w_tables⟩
theorem atStart : AtStart classFile x code maxLocals ret World_1 tables_1 room_1 Calls_1 rest_1 Pre_1 launch0 p0 e0 about1 theMethod args0 below0 :=
  ⟨lists_1, trivial, launch0.admits_env _ _ _, launch0.least_env, fairChoices_fair.cas, fairChoices_fair.clock, w_frames, w_args, w_heap, w_applies, trivial, trivial, w_case⟩
end start1
theorem witness_1 : WitnessClaimed_1 := ⟨start1.p0, start1.e0, start1.about1, start1.theMethod, start1.args0, start1.below0, start1.atStart⟩
end Jvm.Pilot.@@N@@
