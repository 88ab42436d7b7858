import JvmDerived
import JvmDerived.Pilot.@@N@@Statement
import JvmDerived.Pilot.@@N@@Code
set_option linter.unusedVariables false
set_option linter.unusedSimpArgs false

namespace Jvm.Pilot.@@N@@
open Jvm Jvm.ClassFile Sem Op Lib Jvm.Free Jvm.Stand Jvm.LawKit Jvm.RoadKit Bundle Jvm.Pilot.@@N@@.Jvm.D
abbrev HW (a0 : Array Value) (Z : State) : Prop := ∀ d ∈ tables_1, d.before a0 Z = true
abbrev MF (l : Launch) (Z : State) (y : MethodName) (b : ByteArray) (ml : Nat) (rt : Option FieldType) (ws : List Jvm.Cond) (rm : Room) (A : Array Value) (h0 : Heap) (Q : Option Value → Heap → List Loc → Prop) : Prop := MetFree l y (head1 (Jvm.Cond.code y b ml rt :: ws) rm) (fun a U => a = A ∧ Z.Warmed39 U.vm ∧ U.heap = h0) (fun _ _ _ _ _ => True) (fun _ U o U' => ∃ v L, o = .returned v ∧ Q v U'.heap L ∧ FrameEnd U o U' L rm.cells rm.slots)
/-- the end of a walk -/
theorem fin1 {p : Program} {l : Launch} {e : Env} {R : Room} {s : State} {m : MethodId} {args : Array Value} {bl : List Frame} {meth : Method} {c : Code} {T : State} {locs : List Loc} {cells slots : Nat} (X : Stand p l e R s m args bl meth c T locs cells slots) {v : Option Value} (hv : meth.sig.returnType = none → v = none) (hlk : meth.locks = false) {g : JFrame} {s1 : State} {C D : Nat} {Q : Option Value → Heap → List Loc → Prop} (hc : cells ≤ C) (hd : slots ≤ D) (hQ : Q v T.heap locs)
    (hs : ∀ fs, (∀ (f : JFrame) (acts : List Action), f.method = m → f.locked = none → f.entered = [] → (doReturn e (T.setTop f) acts v).1 = T.setFrames fs) → Steps p.tables e bl (s1.setTop g) (T.setFrames fs)) : ∃ s₂ o, Steps p.tables e bl (s1.setTop g) s₂ ∧ s₂.status = .running ∧ Ended s₂ bl o ∧ ∃ v L, o = .returned v ∧ Q v s₂.heap L ∧ FrameEnd s o s₂ L C D := by
  obtain ⟨fs, hr, hrun, hended, hW, hsame⟩ := X.leave hv hlk
  exact ⟨_, _, hs fs hr, hrun, hended, _, _, rfl, hQ, ⟨_, rfl⟩, hW, hsame.mono hc hd⟩
theorem wl {a b : Nat} (h : Nat.ble a b = true) : a ≤ b := Nat.le_of_ble_eq_true h
theorem mW (i : Nat) {d : Jvm.Cond} (h : tables_1[i]? = some d) : d ∈ tables_1 := List.mem_of_getElem? h
/-- from the frame g' at S' the run comes to the frame g at S -/
abbrev Go (p : Program) (e : Env) (below : List Frame) (S : State) (g : JFrame) (S' : State) (g' : JFrame) : Prop := ∀ t, Steps p.tables e below (S.setTop g) t → Steps p.tables e below (S'.setTop g') t

abbrev mN0 : MethodName := ⟨"java/lang/Math", "min", "(II)I"⟩
abbrev mN1 : MethodName := ⟨"java/lang/Math", "max", "(II)I"⟩
abbrev mN2 : MethodName := ⟨"java/lang/Record", "<init>", "()V"⟩
abbrev mN3 : MethodName := ⟨"com/example/uni_repos/unirepos/geo/Point", "<init>", "(DD)V"⟩
abbrev mN4 : MethodName := ⟨"com/example/uni_repos/unirepos/geo/Point", "latitude", "()D"⟩
abbrev mN5 : MethodName := ⟨"com/example/uni_repos/unirepos/geo/Point", "longitude", "()D"⟩
abbrev mN6 : MethodName := ⟨"java/util/Objects", "requireNonNull", "(Ljava/lang/Object;Ljava/lang/String;)Ljava/lang/Object;"⟩
abbrev mN7 : MethodName := ⟨"com/example/uni_repos/unirepos/geo/Box", "<init>", "(Lcom/example/uni_repos/unirepos/geo/Point;Lcom/example/uni_repos/unirepos/geo/Point;)V"⟩
abbrev mN8 : MethodName := ⟨"com/example/uni_repos/unirepos/geo/Box", "crossesAntimeridian", "()Z"⟩
theorem own_fld {args : Array Value} {s : State} {t : Term} {x : Addr} {C n d : String} {k : Int32} (ht : t.eval args s none [] s = some (.ref x)) (h : (Jvm.Cond.eq (.field t C n d) (.int k)).value args s none s [] = some true) : Fld s s.heap x C n d (.int k) := by
  obtain ⟨y, z, h1, h2, h3, -⟩ := cmp_v (Or.inl h)
  have h2' : z = .int k := by simpa [Term.eval] using h2.symm
  subst h2'
  obtain ⟨u, rfl⟩ : ∃ u, y = .int u := by cases y <;> simp [Kin, Value.isRef] at h3 ⊢
  have h4 : u = k := by simpa [Jvm.Cond.value, h1, h2] using h
  subst h4
  exact Fld.start ((fld_at ht).symm.trans h1)

def lonB (w : Int32) : UInt64 := FP.ddiv (FP.i2d w) 4616189618054758400
def nzD (x : UInt64) : UInt64 := if cmpValue (FP.dcmp x 0) .l = 0 then 0 else x
def okD (lo hi x : UInt64) : Prop := (x &&& 0x7fffffffffffffff ≤ 0x7ff0000000000000) ∧ ¬ cmpValue (FP.dcmp x lo) .l < 0 ∧ ¬ 0 < cmpValue (FP.dcmp x hi) .g ∧ (FP.dcmp (nzD x) 0).isSome = true
instance (lo hi x : UInt64) : Decidable (okD lo hi x) := by unfold okD; infer_instance
def latN (n : Nat) : UInt64 := FP.i2d (Int32.ofInt ((n : Int) - 90))
def lonN (n : Nat) : UInt64 := lonB (Int32.ofInt ((n : Int) - 720))
theorem own_t1 : ∀ n : Fin 181, okD 13859405640767635456 4636033603912859648 (latN n.val) := by decide +kernel
theorem own_t2 : ∀ n : Fin 1441, okD 13863909240395005952 4640537203540230144 (lonN n.val) := by decide +kernel
theorem own_t3 : ∀ n : Fin 180, FP.Core.dkey (nzD (latN n.val)) < FP.Core.dkey (nzD (latN (n.val + 1))) := by decide +kernel
theorem own_t4 : ∀ n : Fin 1440, FP.Core.dkey (nzD (lonN n.val)) < FP.Core.dkey (nzD (lonN (n.val + 1))) := by decide +kernel
theorem own_mono (f : Nat → Int) (N : Nat) (h : ∀ n : Fin N, f n.val < f (n.val + 1)) : ∀ m n : Nat, m < n → n ≤ N → f m < f n := by
  intro m n
  induction n with
  | zero => intro h1; omega
  | succ k ih =>
    intro h1 h2
    have q := h ⟨k, by omega⟩
    by_cases e : m = k
    · subst e; exact q
    · exact Int.lt_trans (ih (by omega) (by omega)) q
theorem own_cmp {a b : UInt64} (ha : (FP.dcmp a 0).isSome = true) (hb : (FP.dcmp b 0).isSome = true) : 0 < cmpValue (FP.dcmp a b) .l ↔ FP.Core.dkey b < FP.Core.dkey a := by
  obtain ⟨o1, h1⟩ := Option.isSome_iff_exists.mp ha
  obtain ⟨o2, h2⟩ := Option.isSome_iff_exists.mp hb
  have k : FP.dcmp a b = some (compare (FP.Core.dkey a) (FP.Core.dkey b)) := FP.Core.dcmp_key (FP.Core.dcmp_some h1).1 (FP.Core.dcmp_some h2).1
  have g : FP.dcmp a b = some .gt ↔ FP.Core.dkey b < FP.Core.dkey a := FP.Core.dcmp_gt_key (FP.Core.dcmp_some h1).1 (FP.Core.dcmp_some h2).1
  rw [← g]
  constructor
  · intro h
    rw [k] at h ⊢
    cases hc : compare (FP.Core.dkey a) (FP.Core.dkey b) <;> rw [hc] at h <;> first | rfl | exact absurd h (by decide)
  · intro h; rw [h]; decide
theorem own_toN {x : Int32} {lo : Nat} {N : Nat} (h1 : -(lo : Int) ≤ x.toInt) (h2 : x.toInt + lo ≤ N) : ∃ n : Nat, n ≤ N ∧ x = Int32.ofInt ((n : Int) - lo) ∧ (n : Int) = x.toInt + lo := by
  obtain ⟨n, hn⟩ := Int.eq_ofNat_of_zero_le (a := x.toInt + lo) (by omega)
  refine ⟨n, by omega, ?_, hn.symm⟩
  rw [show (n : Int) - lo = x.toInt by omega, Int32.ofInt_toInt]
def R90 (x : Int32) : Prop := -90 ≤ x.toInt ∧ x.toInt ≤ 90
def R720 (x : Int32) : Prop := -720 ≤ x.toInt ∧ x.toInt ≤ 720
theorem own_lat {x : Int32} (h : R90 x) : okD 13859405640767635456 4636033603912859648 (FP.i2d x) := by
  obtain ⟨n, h1, h2, -⟩ := own_toN (lo := 90) (N := 180) (x := x) h.1 (by have := h.2; omega)
  rw [h2]; exact own_t1 ⟨n, by omega⟩
theorem own_lon {x : Int32} (h : R720 x) : okD 13863909240395005952 4640537203540230144 (lonB x) := by
  obtain ⟨n, h1, h2, -⟩ := own_toN (lo := 720) (N := 1440) (x := x) h.1 (by have := h.2; omega)
  rw [h2]; exact own_t2 ⟨n, by omega⟩
theorem own_latle {x y : Int32} (hx : R90 x) (hy : R90 y) (h : x.toInt ≤ y.toInt) : ¬ 0 < cmpValue (FP.dcmp (nzD (FP.i2d x)) (nzD (FP.i2d y))) .l := by
  rw [own_cmp (own_lat hx).2.2.2 (own_lat hy).2.2.2]
  obtain ⟨n, h1, h2, h3⟩ := own_toN (lo := 90) (N := 180) (x := x) hx.1 (by have := hx.2; omega)
  obtain ⟨m, g1, g2, g3⟩ := own_toN (lo := 90) (N := 180) (x := y) hy.1 (by have := hy.2; omega)
  rw [h2, g2]
  by_cases e : n = m
  · subst e; exact Int.lt_irrefl _
  · have q := own_mono (fun n => FP.Core.dkey (nzD (latN n))) 180 own_t3 n m (by omega) g1
    have q' : FP.Core.dkey (nzD (FP.i2d (Int32.ofInt ((n : Int) - (90 : Nat))))) < FP.Core.dkey (nzD (FP.i2d (Int32.ofInt ((m : Int) - (90 : Nat))))) := q
    omega
theorem own_loncmp {x y : Int32} (hx : R720 x) (hy : R720 y) : 0 < cmpValue (FP.dcmp (nzD (lonB x)) (nzD (lonB y))) .l ↔ y < x := by
  rw [own_cmp (own_lon hx).2.2.2 (own_lon hy).2.2.2, Int32.lt_iff_toInt_lt]
  obtain ⟨n, h1, h2, h3⟩ := own_toN (lo := 720) (N := 1440) (x := x) hx.1 (by have := hx.2; omega)
  obtain ⟨m, g1, g2, g3⟩ := own_toN (lo := 720) (N := 1440) (x := y) hy.1 (by have := hy.2; omega)
  have k := own_mono (fun n => FP.Core.dkey (nzD (lonN n))) 1440 own_t4
  have e1 : FP.Core.dkey (nzD (lonB x)) = FP.Core.dkey (nzD (lonN n)) := by rw [h2]; rfl
  have e2 : FP.Core.dkey (nzD (lonB y)) = FP.Core.dkey (nzD (lonN m)) := by rw [g2]; rfl
  rw [e1, e2]
  constructor
  · intro h
    by_cases e : m < n
    · omega
    · by_cases e' : n = m
      · subst e'; exact absurd h (Int.lt_irrefl _)
      · have q := k n m (by omega) g1
        exact absurd h (Int.not_lt.mpr (Int.le_of_lt q))
  · intro h
    exact k m n (by omega) h1
theorem own_r181 (p : Int32) : R90 ((p &&& 2147483647) % 181 - 90) := by
  have h1 := c_mask p 2147483647 31 (by decide) (by decide)
  have h2 := (c_irem (p &&& 2147483647) 181 181 (by decide)).1 (by omega)
  have h3 : 0 ≤ ((p &&& 2147483647) % 181).toInt ∧ ((p &&& 2147483647) % 181).toInt < 181 := by omega
  generalize (p &&& 2147483647) % 181 = k at h3
  have q := c_isub k 90
  have w := rng32 (k - 90)
  have e : (90 : Int32).toInt = 90 := by decide
  unfold R90; omega
theorem own_r1441 (p : Int32) : R720 ((p &&& 2147483647) % 1441 - 720) := by
  have h1 := c_mask p 2147483647 31 (by decide) (by decide)
  have h2 := (c_irem (p &&& 2147483647) 1441 1441 (by decide)).1 (by omega)
  have h3 : 0 ≤ ((p &&& 2147483647) % 1441).toInt ∧ ((p &&& 2147483647) % 1441).toInt < 1441 := by omega
  generalize (p &&& 2147483647) % 1441 = k at h3
  have q := c_isub k 720
  have w := rng32 (k - 720)
  have e : (720 : Int32).toInt = 720 := by decide
  unfold R720; omega
def minF (a b : Int32) : Int32 := if b < a then b else a
abbrev rKMi : Room := { frames := 0, cells := 0, slots := 0, locals := 0 }
theorem d0_0 : decode jdk_29_method_69_code 0 = .ok (.iload_n 0, 1) := by decide +kernel
theorem d0_1 : decode jdk_29_method_69_code 1 = .ok (.iload_n 1, 1) := by decide +kernel
theorem d0_2 : decode jdk_29_method_69_code 2 = .ok (.if_icmp .gt 7, 3) := by decide +kernel
theorem d0_5 : decode jdk_29_method_69_code 5 = .ok (.iload_n 0, 1) := by decide +kernel
theorem d0_6 : decode jdk_29_method_69_code 6 = .ok (.goto 4, 3) := by decide +kernel
theorem d0_9 : decode jdk_29_method_69_code 9 = .ok (.iload_n 1, 1) := by decide +kernel
theorem d0_10 : decode jdk_29_method_69_code 10 = .ok (.ireturn, 1) := by decide +kernel
theorem efMi (m : MethodId) (p1 : Int32) (p2 : Int32) : entryFrame m #[(.int p1), (.int p2)] 2 = mkF m 0 #[iv p1, iv p2] [] := by first | (simp [entryFrame, mkF, argsToLocals, Value.category]; done) | rfl
def QMi (Z : State) (p1 : Int32) (p2 : Int32) (r : Int32) (h0 : Heap) (n0 : Nat) (v : Option Value) (h : Heap) (L : List Loc) : Prop := v = some (.int r) ∧ Fr n0 L ∧ h = h0
set_option maxRecDepth 65536 in
set_option maxHeartbeats 40000000 in
theorem rmMi (l : Launch) (Z : State) (a0 : Array Value) (hw : HW a0 Z) (ws : List Jvm.Cond) (p1 : Int32) (p2 : Int32) (r : Int32) (h0 : Heap) (n0 : Nat) (Z0 : n0 ≤ h0.size) (hR : minF p1 p2 = r) :
    MF l Z mN0 jdk_29_method_69_code 2 (some .int) ws rKMi #[(.int p1), (.int p2)] h0 (QMi Z p1 p2 r h0 n0) := by
  refine MetFree.of_bodySF (Jvm.Free.JP.mathPlain rfl (by decide +kernel)) hisR ?_
  intro p e s m args bl meth c s1 Bd hml0 hP hK
  obtain ⟨rfl, hZ, hh⟩ := hP
  have hx := Bd.exec
  have hby := Bd.bytes
  have B := @hb c _ hby
  have hown : s.vm.findClass "java/lang/Math" = some m.cls := findClass_of_methodNamed Bd.named
  have hlk : meth.locks = false := BodyLoose.notSynchronized Bd
  have hrt : ∀ {v : Option Value}, meth.sig.returnType = none → v = none := fun h => by rw [Bd.returns] at h; cases h
  have X0 : Stand p l e rKMi s m #[(.int p1), (.int p2)] bl meth c s1 [] 0 0 := Stand.of_body Bd
  have e0 : s1.heap = h0 := by rw [← hh, Bd.state]; rfl
  have N0 := Fr.nil n0
  obtain ⟨EF, hEF⟩ : ∃ f, f = entryFrame m #[(.int p1), (.int p2)] 2 := ⟨_, rfl⟩
  have pre0 : Go p e bl s1 (mkF m 0 #[iv p1, iv p2] []) s1 EF := fun t k => by rw [hEF]; exact castTop (efMi m p1 p2) k
  have pre1 : Go p e bl s1 (mkF m 2 #[iv p1, iv p2] [(.int p2), (.int p1)]) s1 EF := fun t k => pre0 t (by
   refine XS.iloadN X0.here hx rfl (B d0_0) rfl ?_
   exact XS.iloadN X0.here hx rfl (B d0_1) rfl k)
  by_cases hc2 : p2 < p1
  · have pre2 : Go p e bl s1 (mkF m 9 #[iv p1, iv p2] []) s1 EF := fun t k => pre1 t (XS.icmpYes X0.here hx rfl (pc0 := 2) (pc' := 9) rfl (B d0_2) rfl (tlt hc2).2.2.1 (by decide) (by decide) k)
    have pre3 : Go p e bl s1 (mkF m 10 #[iv p1, iv p2] [(.int p2)]) s1 EF := fun t k => pre2 t (by
     exact XS.iloadN X0.here hx rfl (B d0_9) rfl k)
    exact fin1 X0 (v := some (.int p2)) hrt hlk (wl rfl) (wl rfl) (by rw [e0]; exact ⟨by rw [← hR]; simp [minF, hc2], N0, rfl⟩) (fun fs hr => hEF ▸ pre3 _ (retOut X0 hx Bd.returns rfl (Or.inl ⟨rfl, Or.inl rfl, _, rfl⟩) (B d0_10) hr))
  have pre4 : Go p e bl s1 (mkF m 5 #[iv p1, iv p2] []) s1 EF := fun t k => pre1 t (XS.icmpNo X0.here hx rfl (B d0_2) rfl (flt hc2).2.2.1 k)
  have pre5 : Go p e bl s1 (mkF m 10 #[iv p1, iv p2] [(.int p1)]) s1 EF := fun t k => pre4 t (by
   refine XS.iloadN X0.here hx rfl (B d0_5) rfl ?_
   exact XS.goto X0.here hx rfl (pc0 := 6) (pc' := 10) rfl (B d0_6) (by decide) (by decide) k)
  exact fin1 X0 (v := some (.int p1)) hrt hlk (wl rfl) (wl rfl) (by rw [e0]; exact ⟨by rw [← hR]; simp [minF, hc2], N0, rfl⟩) (fun fs hr => hEF ▸ pre5 _ (retOut X0 hx Bd.returns rfl (Or.inl ⟨rfl, Or.inl rfl, _, rfl⟩) (B d0_10) hr))
def maxF (a b : Int32) : Int32 := if a < b then b else a
abbrev rKMa : Room := { frames := 0, cells := 0, slots := 0, locals := 0 }
theorem d1_0 : decode jdk_29_method_65_code 0 = .ok (.iload_n 0, 1) := by decide +kernel
theorem d1_1 : decode jdk_29_method_65_code 1 = .ok (.iload_n 1, 1) := by decide +kernel
theorem d1_2 : decode jdk_29_method_65_code 2 = .ok (.if_icmp .lt 7, 3) := by decide +kernel
theorem d1_5 : decode jdk_29_method_65_code 5 = .ok (.iload_n 0, 1) := by decide +kernel
theorem d1_6 : decode jdk_29_method_65_code 6 = .ok (.goto 4, 3) := by decide +kernel
theorem d1_9 : decode jdk_29_method_65_code 9 = .ok (.iload_n 1, 1) := by decide +kernel
theorem d1_10 : decode jdk_29_method_65_code 10 = .ok (.ireturn, 1) := by decide +kernel
theorem efMa (m : MethodId) (p1 : Int32) (p2 : Int32) : entryFrame m #[(.int p1), (.int p2)] 2 = mkF m 0 #[iv p1, iv p2] [] := by first | (simp [entryFrame, mkF, argsToLocals, Value.category]; done) | rfl
def QMa (Z : State) (p1 : Int32) (p2 : Int32) (r : Int32) (h0 : Heap) (n0 : Nat) (v : Option Value) (h : Heap) (L : List Loc) : Prop := v = some (.int r) ∧ Fr n0 L ∧ h = h0
set_option maxRecDepth 65536 in
set_option maxHeartbeats 40000000 in
theorem rmMa (l : Launch) (Z : State) (a0 : Array Value) (hw : HW a0 Z) (ws : List Jvm.Cond) (p1 : Int32) (p2 : Int32) (r : Int32) (h0 : Heap) (n0 : Nat) (Z0 : n0 ≤ h0.size) (hR : maxF p1 p2 = r) :
    MF l Z mN1 jdk_29_method_65_code 2 (some .int) ws rKMa #[(.int p1), (.int p2)] h0 (QMa Z p1 p2 r h0 n0) := by
  refine MetFree.of_bodySF (Jvm.Free.JP.mathPlain rfl (by decide +kernel)) hisR ?_
  intro p e s m args bl meth c s1 Bd hml0 hP hK
  obtain ⟨rfl, hZ, hh⟩ := hP
  have hx := Bd.exec
  have hby := Bd.bytes
  have B := @hb c _ hby
  have hown : s.vm.findClass "java/lang/Math" = some m.cls := findClass_of_methodNamed Bd.named
  have hlk : meth.locks = false := BodyLoose.notSynchronized Bd
  have hrt : ∀ {v : Option Value}, meth.sig.returnType = none → v = none := fun h => by rw [Bd.returns] at h; cases h
  have X0 : Stand p l e rKMa s m #[(.int p1), (.int p2)] bl meth c s1 [] 0 0 := Stand.of_body Bd
  have e0 : s1.heap = h0 := by rw [← hh, Bd.state]; rfl
  have N0 := Fr.nil n0
  obtain ⟨EF, hEF⟩ : ∃ f, f = entryFrame m #[(.int p1), (.int p2)] 2 := ⟨_, rfl⟩
  have pre0 : Go p e bl s1 (mkF m 0 #[iv p1, iv p2] []) s1 EF := fun t k => by rw [hEF]; exact castTop (efMa m p1 p2) k
  have pre1 : Go p e bl s1 (mkF m 2 #[iv p1, iv p2] [(.int p2), (.int p1)]) s1 EF := fun t k => pre0 t (by
   refine XS.iloadN X0.here hx rfl (B d1_0) rfl ?_
   exact XS.iloadN X0.here hx rfl (B d1_1) rfl k)
  by_cases hc2 : p1 < p2
  · have pre2 : Go p e bl s1 (mkF m 9 #[iv p1, iv p2] []) s1 EF := fun t k => pre1 t (XS.icmpYes X0.here hx rfl (pc0 := 2) (pc' := 9) rfl (B d1_2) rfl (tlt hc2).1 (by decide) (by decide) k)
    have pre3 : Go p e bl s1 (mkF m 10 #[iv p1, iv p2] [(.int p2)]) s1 EF := fun t k => pre2 t (by
     exact XS.iloadN X0.here hx rfl (B d1_9) rfl k)
    exact fin1 X0 (v := some (.int p2)) hrt hlk (wl rfl) (wl rfl) (by rw [e0]; exact ⟨by rw [← hR]; simp [maxF, hc2], N0, rfl⟩) (fun fs hr => hEF ▸ pre3 _ (retOut X0 hx Bd.returns rfl (Or.inl ⟨rfl, Or.inl rfl, _, rfl⟩) (B d1_10) hr))
  have pre4 : Go p e bl s1 (mkF m 5 #[iv p1, iv p2] []) s1 EF := fun t k => pre1 t (XS.icmpNo X0.here hx rfl (B d1_2) rfl (flt hc2).1 k)
  have pre5 : Go p e bl s1 (mkF m 10 #[iv p1, iv p2] [(.int p1)]) s1 EF := fun t k => pre4 t (by
   refine XS.iloadN X0.here hx rfl (B d1_5) rfl ?_
   exact XS.goto X0.here hx rfl (pc0 := 6) (pc' := 10) rfl (B d1_6) (by decide) (by decide) k)
  exact fin1 X0 (v := some (.int p1)) hrt hlk (wl rfl) (wl rfl) (by rw [e0]; exact ⟨by rw [← hR]; simp [maxF, hc2], N0, rfl⟩) (fun fs hr => hEF ▸ pre5 _ (retOut X0 hx Bd.returns rfl (Or.inl ⟨rfl, Or.inl rfl, _, rfl⟩) (B d1_10) hr))
theorem own_mm {a b : Int32} (ha : R90 a) (hb : R90 b) : R90 (minF a b) ∧ R90 (maxF a b) ∧ (minF a b).toInt ≤ (maxF a b).toInt := by
  unfold minF maxF
  have := ha.1; have := ha.2; have := hb.1; have := hb.2
  refine ⟨?_, ?_, ?_⟩
  · split <;> assumption
  · split <;> assumption
  · split <;> split <;> simp only [Int32.lt_iff_toInt_lt] at * <;> omega
theorem own_mx {w : Int32} (h : R720 w) : R720 (maxF (w - 1) (-720)) := by
  have := h.1; have := h.2
  have q := c_isub w 1
  have r := rng32 (w - 1)
  have e : (1 : Int32).toInt = 1 := by decide
  have e2 : (-720 : Int32).toInt = -720 := by decide
  unfold maxF R720; split <;> simp only [Int32.lt_iff_toInt_lt] at * <;> omega
theorem own_mn {w : Int32} (h : R720 w) : R720 (minF (w + 1) 720) := by
  have := h.1; have := h.2
  have q := c_iadd w 1
  have r := rng32 (w + 1)
  have e : (1 : Int32).toInt = 1 := by decide
  have e2 : (720 : Int32).toInt = 720 := by decide
  unfold minF R720; split <;> simp only [Int32.lt_iff_toInt_lt] at * <;> omega
theorem own_sa : ∀ w ∈ Bundle.stringAtoms, w ∈ tables_1 := by decide +kernel
theorem own_wS {Z : State} {a0 : Array Value} (hw : ∀ d ∈ tables_1, d.before a0 Z = true) : ∀ a ∈ Bundle.stringAtoms, a.before a0 Z = true := fun a ha => hw a (own_sa a ha)
abbrev rKR : Room := { frames := 1, cells := 0, slots := 0, locals := 12 }
theorem d2_0 : decode jdk_30_method_1_code 0 = .ok (.aload_n 0, 1) := by decide +kernel
theorem d2_1 : decode jdk_30_method_1_code 1 = .ok (.invokespecial 1, 3) := by decide +kernel
theorem d2_4 : decode jdk_30_method_1_code 4 = .ok (.return_, 1) := by decide +kernel
theorem pn0 : plainName "java/lang/Record" = true := by first | (simp [plainName, overriddenIn]; done) | decide +kernel
theorem efR (m : MethodId) (a1 : Addr) : entryFrame m #[(.ref a1)] 1 = mkF m 0 #[rv a1] [] := by first | (simp [entryFrame, mkF, argsToLocals, Value.category]; done) | rfl
def QR (Z : State) (a1 : Addr) (h0 : Heap) (n0 : Nat) (v : Option Value) (h : Heap) (L : List Loc) : Prop := v = none ∧ Fr n0 L ∧ h = h0
set_option maxRecDepth 65536 in
set_option maxHeartbeats 40000000 in
theorem rmR (l : Launch) (Z : State) (a0 : Array Value) (hw : HW a0 Z) (ws : List Jvm.Cond) (a1 : Addr) (h0 : Heap) (n0 : Nat) (Z0 : n0 ≤ h0.size) :
    MF l Z mN2 jdk_30_method_1_code 1 none ws rKR #[(.ref a1)] h0 (QR Z a1 h0 n0) := by
  refine MetFree.of_bodySF (plainFor_of_name pn0) hisR ?_
  intro p e s m args bl meth c s1 Bd hml0 hP hK
  obtain ⟨rfl, hZ, hh⟩ := hP
  have hx := Bd.exec
  have hby := Bd.bytes
  have B := @hb c _ hby
  have hM := fun {n : Nat} (h : n = 1) => h.trans hml0.symm
  have hown : s.vm.findClass "java/lang/Record" = some m.cls := findClass_of_methodNamed Bd.named
  have hlk : meth.locks = false := BodyLoose.notSynchronized Bd
  have X0 : Stand p l e rKR s m #[(.ref a1)] bl meth c s1 [] 0 0 := Stand.of_body Bd
  have e0 : s1.heap = h0 := by rw [← hh, Bd.state]; rfl
  have N0 := Fr.nil n0
  obtain ⟨EF, hEF⟩ : ∃ f, f = entryFrame m #[(.ref a1)] 1 := ⟨_, rfl⟩
  have pre0 : Go p e bl s1 (mkF m 0 #[rv a1] []) s1 EF := fun t k => by rw [hEF]; exact castTop (efR m a1) k
  have pre1 : Go p e bl s1 (mkF m 1 #[rv a1] [(.ref a1)]) s1 EF := fun t k => pre0 t (by
   exact XS.aloadN X0.here hx rfl (B d2_0) rfl rfl k)
  obtain ⟨T2, X2, e2, st2⟩ := initO X0 hx hZ hown (hw _ (mW 20 rfl)) (hw _ (mW 21 rfl)) (hw _ (mW 22 rfl)) e0 (g := (mkF m 1 #[rv a1] [(.ref a1)])) rfl (hM rfl) rfl (B d2_1) (by decide) (W := 0) (Nat.le_of_eq rfl) (by decide)
  have pre3 : Go p e bl T2 (mkF m 4 #[rv a1] []) s1 EF := fun t k => pre1 t (st2 t k)
  exact fin1 X2 (v := none) (fun _ => rfl) hlk (wl rfl) (wl rfl) (by rw [e2]; exact ⟨rfl, N0, rfl⟩) (fun fs hr => hEF ▸ pre3 _ (X2.returnOut hx Bd.returns (B d2_4) hr))
abbrev rKP : Room := { frames := 2, cells := 0, slots := 0, locals := 24 }
theorem d3_0 : decode prog_23_method_1_code 0 = .ok (.aload_n 0, 1) := by decide +kernel
theorem d3_1 : decode prog_23_method_1_code 1 = .ok (.invokespecial 1, 3) := by decide +kernel
theorem d3_4 : decode prog_23_method_1_code 4 = .ok (.dload_n 1, 1) := by decide +kernel
theorem d3_5 : decode prog_23_method_1_code 5 = .ok (.ldc2_w 7, 3) := by decide +kernel
theorem d3_8 : decode prog_23_method_1_code 8 = .ok (.dcmp .l, 1) := by decide +kernel
theorem d3_9 : decode prog_23_method_1_code 9 = .ok (.ifCond .lt 11, 3) := by decide +kernel
theorem d3_12 : decode prog_23_method_1_code 12 = .ok (.dload_n 1, 1) := by decide +kernel
theorem d3_13 : decode prog_23_method_1_code 13 = .ok (.ldc2_w 9, 3) := by decide +kernel
theorem d3_16 : decode prog_23_method_1_code 16 = .ok (.dcmp .g, 1) := by decide +kernel
theorem d3_17 : decode prog_23_method_1_code 17 = .ok (.ifCond .le 17, 3) := by decide +kernel
theorem d3_34 : decode prog_23_method_1_code 34 = .ok (.dload_n 3, 1) := by decide +kernel
theorem d3_35 : decode prog_23_method_1_code 35 = .ok (.ldc2_w 20, 3) := by decide +kernel
theorem d3_38 : decode prog_23_method_1_code 38 = .ok (.dcmp .l, 1) := by decide +kernel
theorem d3_39 : decode prog_23_method_1_code 39 = .ok (.ifCond .lt 11, 3) := by decide +kernel
theorem d3_42 : decode prog_23_method_1_code 42 = .ok (.dload_n 3, 1) := by decide +kernel
theorem d3_43 : decode prog_23_method_1_code 43 = .ok (.ldc2_w 22, 3) := by decide +kernel
theorem d3_46 : decode prog_23_method_1_code 46 = .ok (.dcmp .g, 1) := by decide +kernel
theorem d3_47 : decode prog_23_method_1_code 47 = .ok (.ifCond .le 17, 3) := by decide +kernel
theorem d3_64 : decode prog_23_method_1_code 64 = .ok (.dload_n 1, 1) := by decide +kernel
theorem d3_65 : decode prog_23_method_1_code 65 = .ok (.dconst 0, 1) := by decide +kernel
theorem d3_66 : decode prog_23_method_1_code 66 = .ok (.dcmp .l, 1) := by decide +kernel
theorem d3_67 : decode prog_23_method_1_code 67 = .ok (.ifCond .ne 5, 3) := by decide +kernel
theorem d3_70 : decode prog_23_method_1_code 70 = .ok (.dconst 0, 1) := by decide +kernel
theorem d3_71 : decode prog_23_method_1_code 71 = .ok (.dstore_n 1, 1) := by decide +kernel
theorem d3_72 : decode prog_23_method_1_code 72 = .ok (.dload_n 3, 1) := by decide +kernel
theorem d3_73 : decode prog_23_method_1_code 73 = .ok (.dconst 0, 1) := by decide +kernel
theorem d3_74 : decode prog_23_method_1_code 74 = .ok (.dcmp .l, 1) := by decide +kernel
theorem d3_75 : decode prog_23_method_1_code 75 = .ok (.ifCond .ne 5, 3) := by decide +kernel
theorem d3_78 : decode prog_23_method_1_code 78 = .ok (.dconst 0, 1) := by decide +kernel
theorem d3_79 : decode prog_23_method_1_code 79 = .ok (.dstore_n 3, 1) := by decide +kernel
theorem d3_80 : decode prog_23_method_1_code 80 = .ok (.aload_n 0, 1) := by decide +kernel
theorem d3_81 : decode prog_23_method_1_code 81 = .ok (.dload_n 1, 1) := by decide +kernel
theorem d3_82 : decode prog_23_method_1_code 82 = .ok (.putfield 25, 3) := by decide +kernel
theorem d3_85 : decode prog_23_method_1_code 85 = .ok (.aload_n 0, 1) := by decide +kernel
theorem d3_86 : decode prog_23_method_1_code 86 = .ok (.dload_n 3, 1) := by decide +kernel
theorem d3_87 : decode prog_23_method_1_code 87 = .ok (.putfield 31, 3) := by decide +kernel
theorem d3_90 : decode prog_23_method_1_code 90 = .ok (.return_, 1) := by decide +kernel
theorem pn1 : plainName "com/example/uni_repos/unirepos/geo/Point" = true := by first | (simp [plainName, overriddenIn]; done) | decide +kernel
theorem pd0 : parseMethodDescriptor "()V" = some ⟨[], none⟩ := by decide +kernel
theorem efP (m : MethodId) (a1 : Addr) (d1 : UInt64) (d2 : UInt64) : entryFrame m #[(.ref a1), (.double d1), (.double d2)] 5 = mkF m 0 #[rv a1, .val (.double d1), .second, .val (.double d2), .second] [] := by first | (simp [entryFrame, mkF, argsToLocals, Value.category]; done) | rfl
def QP (Z : State) (a1 : Addr) (d1 : UInt64) (d2 : UInt64) (h0 : Heap) (n0 : Nat) (v : Option Value) (h : Heap) (L : List Loc) : Prop := v = none ∧ Fr n0 L ∧ Keep h0 h [a1] ∧ Exa Z h a1 "com/example/uni_repos/unirepos/geo/Point" ∧ Fld Z h a1 "com/example/uni_repos/unirepos/geo/Point" "latitude" "D" (.double (nzD d1)) ∧ Fld Z h a1 "com/example/uni_repos/unirepos/geo/Point" "longitude" "D" (.double (nzD d2))
set_option maxRecDepth 65536 in
set_option maxHeartbeats 40000000 in
theorem rmP (l : Launch) (Z : State) (a0 : Array Value) (hw : HW a0 Z) (ws : List Jvm.Cond) (a1 : Addr) (d1 : UInt64) (d2 : UInt64) (h0 : Heap) (n0 : Nat) (Z0 : n0 ≤ h0.size) (E1 : Exa Z h0 a1 "com/example/uni_repos/unirepos/geo/Point") (g_a1 : n0 ≤ a1) (F1 : Fld Z h0 a1 "com/example/uni_repos/unirepos/geo/Point" "latitude" "D" (.double 0)) (F2 : Fld Z h0 a1 "com/example/uni_repos/unirepos/geo/Point" "longitude" "D" (.double 0)) (k1 : okD 13859405640767635456 4636033603912859648 d1) (k2 : okD 13863909240395005952 4640537203540230144 d2) :
    MF l Z mN3 prog_23_method_1_code 5 none ws rKP #[(.ref a1), (.double d1), (.double d2)] h0 (QP Z a1 d1 d2 h0 n0) := by
  refine MetFree.of_bodySF (plainFor_of_name pn1) hisR ?_
  intro p e s m args bl meth c s1 Bd hml0 hP hK
  obtain ⟨rfl, hZ, hh⟩ := hP
  have hx := Bd.exec
  have hby := Bd.bytes
  have B := @hb c _ hby
  have hM := fun {n : Nat} (h : n = 5) => h.trans hml0.symm
  have hown : s.vm.findClass "com/example/uni_repos/unirepos/geo/Point" = some m.cls := findClass_of_methodNamed Bd.named
  have hnm := (name_of_methodNamed Bd.named Bd.method).1
  have hlk : meth.locks = false := BodyLoose.notSynchronized Bd
  have X0 : Stand p l e rKP s m #[(.ref a1), (.double d1), (.double d2)] bl meth c s1 [] 0 0 := Stand.of_body Bd
  have e0 : s1.heap = h0 := by rw [← hh, Bd.state]; rfl
  have N0 := Fr.nil n0
  obtain ⟨EF, hEF⟩ : ∃ f, f = entryFrame m #[(.ref a1), (.double d1), (.double d2)] 5 := ⟨_, rfl⟩
  have pre0 : Go p e bl s1 (mkF m 0 #[rv a1, .val (.double d1), .second, .val (.double d2), .second] []) s1 EF := fun t k => by rw [hEF]; exact castTop (efP m a1 d1 d2) k
  have pre1 : Go p e bl s1 (mkF m 1 #[rv a1, .val (.double d1), .second, .val (.double d2), .second] [(.ref a1)]) s1 EF := fun t k => pre0 t (by
   exact XS.aloadN X0.here hx rfl (B d3_0) rfl rfl k)
  obtain ⟨_, _, ⟨T2, L2, k2, n2⟩, -, X2, ⟨Lc2, hQ2, l2, y2, z2⟩, st2⟩ := X0.specialBack hx (y := mN2) rfl hown (mvT hZ (hw _ (mW 15 rfl))) (mvT hZ (hw _ (mW 16 rfl))) (mvT hZ (hw _ (mW 19 rfl))) (by decide) (backOf (W := 0) (rmR l Z a0 hw [] a1 h0 n0 Z0) hZ (hw _ (mW 19 rfl)) (hw _ (mW 18 rfl)) (by decide) (by decide)) (g := (mkF m 1 #[rv a1, .val (.double d1), .second, .val (.double d2), .second] [(.ref a1)])) rfl (hM rfl) (Steps.refl _) (a := a1) (argsL := []) (rest := []) (lenOf pd0 rfl) rfl (Nat.le_of_eq rfl) (B d3_1) (fun _ _ => ⟨rfl, e0, wl rfl, wl rfl⟩)
  dsimp only [Pt.U, Pt.locs, Pt.cells, Pt.slots] at X2 l2 y2 z2 st2 hQ2
  subst l2 y2 z2
  obtain ⟨rfl, N2q, hq2⟩ := hQ2
  have N2 := Fr.app N0 N2q
  have pre3 : Go p e bl T2 (mkF m 4 #[rv a1, .val (.double d1), .second, .val (.double d2), .second] []) s1 EF := fun t k => pre1 t (st2.trans k)
  have e2 : T2.heap = h0 := hq2
  have pre4 : Go p e bl T2 (mkF m 9 #[rv a1, .val (.double d1), .second, .val (.double d2), .second] [(.int (cmpValue (FP.dcmp d1 (13859405640767635456 : UInt64)) .l))]) s1 EF := fun t k => pre3 t (by
   refine XS.dloadN X2.here hx rfl (B d3_4) rfl ?_
   refine X2.ldc2DoubleC hx hown (mvT hZ (hw _ (mW 23 rfl))) (g := (mkF m 5 #[rv a1, .val (.double d1), .second, .val (.double d2), .second] [(.double d1)])) rfl (B d3_5) _ ?_
   exact XS.dcmpS X2.here hx rfl (v := (cmpValue (FP.dcmp d1 (13859405640767635456 : UInt64)) .l)) (B d3_8) rfl rfl k)
  have pre5 : Go p e bl T2 (mkF m 12 #[rv a1, .val (.double d1), .second, .val (.double d2), .second] []) s1 EF := fun t k => pre4 t (XS.ifNo X2.here hx rfl (B d3_9) rfl ((if0 _ _).trans (flt k1.2.1).1) k)
  have pre6 : Go p e bl T2 (mkF m 17 #[rv a1, .val (.double d1), .second, .val (.double d2), .second] [(.int (cmpValue (FP.dcmp d1 (4636033603912859648 : UInt64)) .g))]) s1 EF := fun t k => pre5 t (by
   refine XS.dloadN X2.here hx rfl (B d3_12) rfl ?_
   refine X2.ldc2DoubleC hx hown (mvT hZ (hw _ (mW 24 rfl))) (g := (mkF m 13 #[rv a1, .val (.double d1), .second, .val (.double d2), .second] [(.double d1)])) rfl (B d3_13) _ ?_
   exact XS.dcmpS X2.here hx rfl (v := (cmpValue (FP.dcmp d1 (4636033603912859648 : UInt64)) .g)) (B d3_16) rfl rfl k)
  have pre7 : Go p e bl T2 (mkF m 34 #[rv a1, .val (.double d1), .second, .val (.double d2), .second] []) s1 EF := fun t k => pre6 t (XS.ifYes X2.here hx rfl (pc0 := 17) (pc' := 34) rfl (B d3_17) rfl ((if0 _ _).trans (flt k1.2.2.1).2.2.2) (by decide) (by decide) k)
  have pre8 : Go p e bl T2 (mkF m 39 #[rv a1, .val (.double d1), .second, .val (.double d2), .second] [(.int (cmpValue (FP.dcmp d2 (13863909240395005952 : UInt64)) .l))]) s1 EF := fun t k => pre7 t (by
   refine XS.dloadN X2.here hx rfl (B d3_34) rfl ?_
   refine X2.ldc2DoubleC hx hown (mvT hZ (hw _ (mW 25 rfl))) (g := (mkF m 35 #[rv a1, .val (.double d1), .second, .val (.double d2), .second] [(.double d2)])) rfl (B d3_35) _ ?_
   exact XS.dcmpS X2.here hx rfl (v := (cmpValue (FP.dcmp d2 (13863909240395005952 : UInt64)) .l)) (B d3_38) rfl rfl k)
  have pre9 : Go p e bl T2 (mkF m 42 #[rv a1, .val (.double d1), .second, .val (.double d2), .second] []) s1 EF := fun t k => pre8 t (XS.ifNo X2.here hx rfl (B d3_39) rfl ((if0 _ _).trans (flt k2.2.1).1) k)
  have pre10 : Go p e bl T2 (mkF m 47 #[rv a1, .val (.double d1), .second, .val (.double d2), .second] [(.int (cmpValue (FP.dcmp d2 (4640537203540230144 : UInt64)) .g))]) s1 EF := fun t k => pre9 t (by
   refine XS.dloadN X2.here hx rfl (B d3_42) rfl ?_
   refine X2.ldc2DoubleC hx hown (mvT hZ (hw _ (mW 26 rfl))) (g := (mkF m 43 #[rv a1, .val (.double d1), .second, .val (.double d2), .second] [(.double d2)])) rfl (B d3_43) _ ?_
   exact XS.dcmpS X2.here hx rfl (v := (cmpValue (FP.dcmp d2 (4640537203540230144 : UInt64)) .g)) (B d3_46) rfl rfl k)
  have pre11 : Go p e bl T2 (mkF m 64 #[rv a1, .val (.double d1), .second, .val (.double d2), .second] []) s1 EF := fun t k => pre10 t (XS.ifYes X2.here hx rfl (pc0 := 47) (pc' := 64) rfl (B d3_47) rfl ((if0 _ _).trans (flt k2.2.2.1).2.2.2) (by decide) (by decide) k)
  have pre12 : Go p e bl T2 (mkF m 67 #[rv a1, .val (.double d1), .second, .val (.double d2), .second] [(.int (cmpValue (FP.dcmp d1 (0 : UInt64)) .l))]) s1 EF := fun t k => pre11 t (by
   refine XS.dloadN X2.here hx rfl (B d3_64) rfl ?_
   refine XS.dconst0 X2.here hx rfl (v := (0 : UInt64)) (B d3_65) (by decide) ?_
   exact XS.dcmpS X2.here hx rfl (v := (cmpValue (FP.dcmp d1 (0 : UInt64)) .l)) (B d3_66) rfl rfl k)
  by_cases hc67 : (cmpValue (FP.dcmp d1 (0 : UInt64)) .l) = (0 : Int32)
  · have pre13 : Go p e bl T2 (mkF m 70 #[rv a1, .val (.double d1), .second, .val (.double d2), .second] []) s1 EF := fun t k => pre12 t (XS.ifNo X2.here hx rfl (B d3_67) rfl ((if0 _ _).trans (teq hc67).2) k)
    have pre14 : Go p e bl T2 (mkF m 75 #[rv a1, .val (.double (0 : UInt64)), .second, .val (.double d2), .second] [(.int (cmpValue (FP.dcmp d2 (0 : UInt64)) .l))]) s1 EF := fun t k => pre13 t (by
     refine XS.dconst0 X2.here hx rfl (v := (0 : UInt64)) (B d3_70) (by decide) ?_
     refine XS.dstoreN X2.here hx rfl (B d3_71) rfl (l' := #[rv a1, .val (.double (0 : UInt64)), .second, .val (.double d2), .second]) rfl ?_
     refine XS.dloadN X2.here hx rfl (B d3_72) rfl ?_
     refine XS.dconst0 X2.here hx rfl (v := (0 : UInt64)) (B d3_73) (by decide) ?_
     exact XS.dcmpS X2.here hx rfl (v := (cmpValue (FP.dcmp d2 (0 : UInt64)) .l)) (B d3_74) rfl rfl k)
    by_cases hc75 : (cmpValue (FP.dcmp d2 (0 : UInt64)) .l) = (0 : Int32)
    · have pre15 : Go p e bl T2 (mkF m 78 #[rv a1, .val (.double (0 : UInt64)), .second, .val (.double d2), .second] []) s1 EF := fun t k => pre14 t (XS.ifNo X2.here hx rfl (B d3_75) rfl ((if0 _ _).trans (teq hc75).2) k)
      have pre16 : Go p e bl T2 (mkF m 82 #[rv a1, .val (.double (0 : UInt64)), .second, .val (.double (0 : UInt64)), .second] [(.double (0 : UInt64)), (.ref a1)]) s1 EF := fun t k => pre15 t (by
       refine XS.dconst0 X2.here hx rfl (v := (0 : UInt64)) (B d3_78) (by decide) ?_
       refine XS.dstoreN X2.here hx rfl (B d3_79) rfl (l' := #[rv a1, .val (.double (0 : UInt64)), .second, .val (.double (0 : UInt64)), .second]) rfl ?_
       refine XS.aloadN X2.here hx rfl (B d3_80) rfl rfl ?_
       exact XS.dloadN X2.here hx rfl (B d3_81) rfl k)
      obtain ⟨T17, h17, X17, e17, W17, st17⟩ := putF X2 hx hZ hown (host := "") (Or.inl (hw _ (mW 27 rfl))) Via.refl e2 F1 E1 (Or.inr ⟨(hw _ (mW 28 rfl)), rfl, hnm⟩) (hw _ (mW 9 rfl)) (ty := .double) (by decide) rfl rfl (g := (mkF m 82 #[rv a1, .val (.double (0 : UInt64)), .second, .val (.double (0 : UInt64)), .second] [(.double (0 : UInt64)), (.ref a1)])) rfl rfl (B d3_82)
      have pre18 : Go p e bl T17 (mkF m 85 #[rv a1, .val (.double (0 : UInt64)), .second, .val (.double (0 : UInt64)), .second] []) s1 EF := fun t k => pre16 t (st17 t k)
      have Z19 : n0 ≤ h17.size := Nat.le_trans Z0 (Keep.of_wr W17).1
      have K19 : Keep h0 h17 [a1] := (Keep.refl h0 [a1]).wr W17 (Or.inl (List.mem_of_getElem? (i := 0) rfl))
      have Fw17 := Fld.same W17 F1
      have N17 := Fr.snoc X17 N2 g_a1
      have pre20 : Go p e bl T17 (mkF m 87 #[rv a1, .val (.double (0 : UInt64)), .second, .val (.double (0 : UInt64)), .second] [(.double (0 : UInt64)), (.ref a1)]) s1 EF := fun t k => pre18 t (by
       refine XS.aloadN X17.here hx rfl (B d3_85) rfl rfl ?_
       exact XS.dloadN X17.here hx rfl (B d3_86) rfl k)
      obtain ⟨T21, h21, X21, e21, W21, st21⟩ := putF X17 hx hZ hown (host := "") (Or.inl (hw _ (mW 29 rfl))) Via.refl e17 (Fld.other W17 F2 (Or.inr (slot_ne (Or.inr (hw _ (mW 30 rfl))) (Or.inr (hw _ (mW 28 rfl))) (by decide) (t := .double) (t' := .double) (by decide) (by decide)))) (E1.wr W17) (Or.inr ⟨(hw _ (mW 30 rfl)), rfl, hnm⟩) (hw _ (mW 9 rfl)) (ty := .double) (by decide) rfl rfl (g := (mkF m 87 #[rv a1, .val (.double (0 : UInt64)), .second, .val (.double (0 : UInt64)), .second] [(.double (0 : UInt64)), (.ref a1)])) rfl rfl (B d3_87)
      have pre22 : Go p e bl T21 (mkF m 90 #[rv a1, .val (.double (0 : UInt64)), .second, .val (.double (0 : UInt64)), .second] []) s1 EF := fun t k => pre20 t (st21 t k)
      have Z23 : n0 ≤ h21.size := Nat.le_trans Z19 (Keep.of_wr W21).1
      have K23 : Keep h0 h21 [a1] := K19.wr W21 (Or.inl (List.mem_of_getElem? (i := 0) rfl))
      have Fw21 := Fld.same W21 (Fld.other W17 F2 (Or.inr (slot_ne (Or.inr (hw _ (mW 30 rfl))) (Or.inr (hw _ (mW 28 rfl))) (by decide) (t := .double) (t' := .double) (by decide) (by decide))))
      have N21 := Fr.snoc X21 N17 g_a1
      exact fin1 X21 (v := none) (fun _ => rfl) hlk (wl rfl) (wl rfl) (by rw [e21]; exact ⟨rfl, N21, K23, ((E1.wr W17).wr W21), (by have q := (Fld.other W21 Fw17 (Or.inr (slot_ne (Or.inr (hw _ (mW 28 rfl))) (Or.inr (hw _ (mW 30 rfl))) (by decide) (t := .double) (t' := .double) (by decide) (by decide)))); simpa only [nzD, if_pos hc67] using q), (by have q := Fw21; simpa only [nzD, if_pos hc75] using q)⟩) (fun fs hr => hEF ▸ pre22 _ (X21.returnOut hx Bd.returns (B d3_90) hr))
    have pre24 : Go p e bl T2 (mkF m 80 #[rv a1, .val (.double (0 : UInt64)), .second, .val (.double d2), .second] []) s1 EF := fun t k => pre14 t (XS.ifYes X2.here hx rfl (pc0 := 75) (pc' := 80) rfl (B d3_75) rfl ((if0 _ _).trans (feq hc75).2) (by decide) (by decide) k)
    have pre25 : Go p e bl T2 (mkF m 82 #[rv a1, .val (.double (0 : UInt64)), .second, .val (.double d2), .second] [(.double (0 : UInt64)), (.ref a1)]) s1 EF := fun t k => pre24 t (by
     refine XS.aloadN X2.here hx rfl (B d3_80) rfl rfl ?_
     exact XS.dloadN X2.here hx rfl (B d3_81) rfl k)
    obtain ⟨T26, h26, X26, e26, W26, st26⟩ := putF X2 hx hZ hown (host := "") (Or.inl (hw _ (mW 27 rfl))) Via.refl e2 F1 E1 (Or.inr ⟨(hw _ (mW 28 rfl)), rfl, hnm⟩) (hw _ (mW 9 rfl)) (ty := .double) (by decide) rfl rfl (g := (mkF m 82 #[rv a1, .val (.double (0 : UInt64)), .second, .val (.double d2), .second] [(.double (0 : UInt64)), (.ref a1)])) rfl rfl (B d3_82)
    have pre27 : Go p e bl T26 (mkF m 85 #[rv a1, .val (.double (0 : UInt64)), .second, .val (.double d2), .second] []) s1 EF := fun t k => pre25 t (st26 t k)
    have Z28 : n0 ≤ h26.size := Nat.le_trans Z0 (Keep.of_wr W26).1
    have K28 : Keep h0 h26 [a1] := (Keep.refl h0 [a1]).wr W26 (Or.inl (List.mem_of_getElem? (i := 0) rfl))
    have Fw26 := Fld.same W26 F1
    have N26 := Fr.snoc X26 N2 g_a1
    have pre29 : Go p e bl T26 (mkF m 87 #[rv a1, .val (.double (0 : UInt64)), .second, .val (.double d2), .second] [(.double d2), (.ref a1)]) s1 EF := fun t k => pre27 t (by
     refine XS.aloadN X26.here hx rfl (B d3_85) rfl rfl ?_
     exact XS.dloadN X26.here hx rfl (B d3_86) rfl k)
    obtain ⟨T30, h30, X30, e30, W30, st30⟩ := putF X26 hx hZ hown (host := "") (Or.inl (hw _ (mW 29 rfl))) Via.refl e26 (Fld.other W26 F2 (Or.inr (slot_ne (Or.inr (hw _ (mW 30 rfl))) (Or.inr (hw _ (mW 28 rfl))) (by decide) (t := .double) (t' := .double) (by decide) (by decide)))) (E1.wr W26) (Or.inr ⟨(hw _ (mW 30 rfl)), rfl, hnm⟩) (hw _ (mW 9 rfl)) (ty := .double) (by decide) rfl rfl (g := (mkF m 87 #[rv a1, .val (.double (0 : UInt64)), .second, .val (.double d2), .second] [(.double d2), (.ref a1)])) rfl rfl (B d3_87)
    have pre31 : Go p e bl T30 (mkF m 90 #[rv a1, .val (.double (0 : UInt64)), .second, .val (.double d2), .second] []) s1 EF := fun t k => pre29 t (st30 t k)
    have Z32 : n0 ≤ h30.size := Nat.le_trans Z28 (Keep.of_wr W30).1
    have K32 : Keep h0 h30 [a1] := K28.wr W30 (Or.inl (List.mem_of_getElem? (i := 0) rfl))
    have Fw30 := Fld.same W30 (Fld.other W26 F2 (Or.inr (slot_ne (Or.inr (hw _ (mW 30 rfl))) (Or.inr (hw _ (mW 28 rfl))) (by decide) (t := .double) (t' := .double) (by decide) (by decide))))
    have N30 := Fr.snoc X30 N26 g_a1
    exact fin1 X30 (v := none) (fun _ => rfl) hlk (wl rfl) (wl rfl) (by rw [e30]; exact ⟨rfl, N30, K32, ((E1.wr W26).wr W30), (by have q := (Fld.other W30 Fw26 (Or.inr (slot_ne (Or.inr (hw _ (mW 28 rfl))) (Or.inr (hw _ (mW 30 rfl))) (by decide) (t := .double) (t' := .double) (by decide) (by decide)))); simpa only [nzD, if_pos hc67] using q), (by have q := Fw30; simpa only [nzD, if_neg hc75] using q)⟩) (fun fs hr => hEF ▸ pre31 _ (X30.returnOut hx Bd.returns (B d3_90) hr))
  have pre33 : Go p e bl T2 (mkF m 72 #[rv a1, .val (.double d1), .second, .val (.double d2), .second] []) s1 EF := fun t k => pre12 t (XS.ifYes X2.here hx rfl (pc0 := 67) (pc' := 72) rfl (B d3_67) rfl ((if0 _ _).trans (feq hc67).2) (by decide) (by decide) k)
  have pre34 : Go p e bl T2 (mkF m 75 #[rv a1, .val (.double d1), .second, .val (.double d2), .second] [(.int (cmpValue (FP.dcmp d2 (0 : UInt64)) .l))]) s1 EF := fun t k => pre33 t (by
   refine XS.dloadN X2.here hx rfl (B d3_72) rfl ?_
   refine XS.dconst0 X2.here hx rfl (v := (0 : UInt64)) (B d3_73) (by decide) ?_
   exact XS.dcmpS X2.here hx rfl (v := (cmpValue (FP.dcmp d2 (0 : UInt64)) .l)) (B d3_74) rfl rfl k)
  by_cases hc75 : (cmpValue (FP.dcmp d2 (0 : UInt64)) .l) = (0 : Int32)
  · have pre35 : Go p e bl T2 (mkF m 78 #[rv a1, .val (.double d1), .second, .val (.double d2), .second] []) s1 EF := fun t k => pre34 t (XS.ifNo X2.here hx rfl (B d3_75) rfl ((if0 _ _).trans (teq hc75).2) k)
    have pre36 : Go p e bl T2 (mkF m 82 #[rv a1, .val (.double d1), .second, .val (.double (0 : UInt64)), .second] [(.double d1), (.ref a1)]) s1 EF := fun t k => pre35 t (by
     refine XS.dconst0 X2.here hx rfl (v := (0 : UInt64)) (B d3_78) (by decide) ?_
     refine XS.dstoreN X2.here hx rfl (B d3_79) rfl (l' := #[rv a1, .val (.double d1), .second, .val (.double (0 : UInt64)), .second]) rfl ?_
     refine XS.aloadN X2.here hx rfl (B d3_80) rfl rfl ?_
     exact XS.dloadN X2.here hx rfl (B d3_81) rfl k)
    obtain ⟨T37, h37, X37, e37, W37, st37⟩ := putF X2 hx hZ hown (host := "") (Or.inl (hw _ (mW 27 rfl))) Via.refl e2 F1 E1 (Or.inr ⟨(hw _ (mW 28 rfl)), rfl, hnm⟩) (hw _ (mW 9 rfl)) (ty := .double) (by decide) rfl rfl (g := (mkF m 82 #[rv a1, .val (.double d1), .second, .val (.double (0 : UInt64)), .second] [(.double d1), (.ref a1)])) rfl rfl (B d3_82)
    have pre38 : Go p e bl T37 (mkF m 85 #[rv a1, .val (.double d1), .second, .val (.double (0 : UInt64)), .second] []) s1 EF := fun t k => pre36 t (st37 t k)
    have Z39 : n0 ≤ h37.size := Nat.le_trans Z0 (Keep.of_wr W37).1
    have K39 : Keep h0 h37 [a1] := (Keep.refl h0 [a1]).wr W37 (Or.inl (List.mem_of_getElem? (i := 0) rfl))
    have Fw37 := Fld.same W37 F1
    have N37 := Fr.snoc X37 N2 g_a1
    have pre40 : Go p e bl T37 (mkF m 87 #[rv a1, .val (.double d1), .second, .val (.double (0 : UInt64)), .second] [(.double (0 : UInt64)), (.ref a1)]) s1 EF := fun t k => pre38 t (by
     refine XS.aloadN X37.here hx rfl (B d3_85) rfl rfl ?_
     exact XS.dloadN X37.here hx rfl (B d3_86) rfl k)
    obtain ⟨T41, h41, X41, e41, W41, st41⟩ := putF X37 hx hZ hown (host := "") (Or.inl (hw _ (mW 29 rfl))) Via.refl e37 (Fld.other W37 F2 (Or.inr (slot_ne (Or.inr (hw _ (mW 30 rfl))) (Or.inr (hw _ (mW 28 rfl))) (by decide) (t := .double) (t' := .double) (by decide) (by decide)))) (E1.wr W37) (Or.inr ⟨(hw _ (mW 30 rfl)), rfl, hnm⟩) (hw _ (mW 9 rfl)) (ty := .double) (by decide) rfl rfl (g := (mkF m 87 #[rv a1, .val (.double d1), .second, .val (.double (0 : UInt64)), .second] [(.double (0 : UInt64)), (.ref a1)])) rfl rfl (B d3_87)
    have pre42 : Go p e bl T41 (mkF m 90 #[rv a1, .val (.double d1), .second, .val (.double (0 : UInt64)), .second] []) s1 EF := fun t k => pre40 t (st41 t k)
    have Z43 : n0 ≤ h41.size := Nat.le_trans Z39 (Keep.of_wr W41).1
    have K43 : Keep h0 h41 [a1] := K39.wr W41 (Or.inl (List.mem_of_getElem? (i := 0) rfl))
    have Fw41 := Fld.same W41 (Fld.other W37 F2 (Or.inr (slot_ne (Or.inr (hw _ (mW 30 rfl))) (Or.inr (hw _ (mW 28 rfl))) (by decide) (t := .double) (t' := .double) (by decide) (by decide))))
    have N41 := Fr.snoc X41 N37 g_a1
    exact fin1 X41 (v := none) (fun _ => rfl) hlk (wl rfl) (wl rfl) (by rw [e41]; exact ⟨rfl, N41, K43, ((E1.wr W37).wr W41), (by have q := (Fld.other W41 Fw37 (Or.inr (slot_ne (Or.inr (hw _ (mW 28 rfl))) (Or.inr (hw _ (mW 30 rfl))) (by decide) (t := .double) (t' := .double) (by decide) (by decide)))); simpa only [nzD, if_neg hc67] using q), (by have q := Fw41; simpa only [nzD, if_pos hc75] using q)⟩) (fun fs hr => hEF ▸ pre42 _ (X41.returnOut hx Bd.returns (B d3_90) hr))
  have pre44 : Go p e bl T2 (mkF m 80 #[rv a1, .val (.double d1), .second, .val (.double d2), .second] []) s1 EF := fun t k => pre34 t (XS.ifYes X2.here hx rfl (pc0 := 75) (pc' := 80) rfl (B d3_75) rfl ((if0 _ _).trans (feq hc75).2) (by decide) (by decide) k)
  have pre45 : Go p e bl T2 (mkF m 82 #[rv a1, .val (.double d1), .second, .val (.double d2), .second] [(.double d1), (.ref a1)]) s1 EF := fun t k => pre44 t (by
   refine XS.aloadN X2.here hx rfl (B d3_80) rfl rfl ?_
   exact XS.dloadN X2.here hx rfl (B d3_81) rfl k)
  obtain ⟨T46, h46, X46, e46, W46, st46⟩ := putF X2 hx hZ hown (host := "") (Or.inl (hw _ (mW 27 rfl))) Via.refl e2 F1 E1 (Or.inr ⟨(hw _ (mW 28 rfl)), rfl, hnm⟩) (hw _ (mW 9 rfl)) (ty := .double) (by decide) rfl rfl (g := (mkF m 82 #[rv a1, .val (.double d1), .second, .val (.double d2), .second] [(.double d1), (.ref a1)])) rfl rfl (B d3_82)
  have pre47 : Go p e bl T46 (mkF m 85 #[rv a1, .val (.double d1), .second, .val (.double d2), .second] []) s1 EF := fun t k => pre45 t (st46 t k)
  have Z48 : n0 ≤ h46.size := Nat.le_trans Z0 (Keep.of_wr W46).1
  have K48 : Keep h0 h46 [a1] := (Keep.refl h0 [a1]).wr W46 (Or.inl (List.mem_of_getElem? (i := 0) rfl))
  have Fw46 := Fld.same W46 F1
  have N46 := Fr.snoc X46 N2 g_a1
  have pre49 : Go p e bl T46 (mkF m 87 #[rv a1, .val (.double d1), .second, .val (.double d2), .second] [(.double d2), (.ref a1)]) s1 EF := fun t k => pre47 t (by
   refine XS.aloadN X46.here hx rfl (B d3_85) rfl rfl ?_
   exact XS.dloadN X46.here hx rfl (B d3_86) rfl k)
  obtain ⟨T50, h50, X50, e50, W50, st50⟩ := putF X46 hx hZ hown (host := "") (Or.inl (hw _ (mW 29 rfl))) Via.refl e46 (Fld.other W46 F2 (Or.inr (slot_ne (Or.inr (hw _ (mW 30 rfl))) (Or.inr (hw _ (mW 28 rfl))) (by decide) (t := .double) (t' := .double) (by decide) (by decide)))) (E1.wr W46) (Or.inr ⟨(hw _ (mW 30 rfl)), rfl, hnm⟩) (hw _ (mW 9 rfl)) (ty := .double) (by decide) rfl rfl (g := (mkF m 87 #[rv a1, .val (.double d1), .second, .val (.double d2), .second] [(.double d2), (.ref a1)])) rfl rfl (B d3_87)
  have pre51 : Go p e bl T50 (mkF m 90 #[rv a1, .val (.double d1), .second, .val (.double d2), .second] []) s1 EF := fun t k => pre49 t (st50 t k)
  have Z52 : n0 ≤ h50.size := Nat.le_trans Z48 (Keep.of_wr W50).1
  have K52 : Keep h0 h50 [a1] := K48.wr W50 (Or.inl (List.mem_of_getElem? (i := 0) rfl))
  have Fw50 := Fld.same W50 (Fld.other W46 F2 (Or.inr (slot_ne (Or.inr (hw _ (mW 30 rfl))) (Or.inr (hw _ (mW 28 rfl))) (by decide) (t := .double) (t' := .double) (by decide) (by decide))))
  have N50 := Fr.snoc X50 N46 g_a1
  exact fin1 X50 (v := none) (fun _ => rfl) hlk (wl rfl) (wl rfl) (by rw [e50]; exact ⟨rfl, N50, K52, ((E1.wr W46).wr W50), (by have q := (Fld.other W50 Fw46 (Or.inr (slot_ne (Or.inr (hw _ (mW 28 rfl))) (Or.inr (hw _ (mW 30 rfl))) (by decide) (t := .double) (t' := .double) (by decide) (by decide)))); simpa only [nzD, if_neg hc67] using q), (by have q := Fw50; simpa only [nzD, if_neg hc75] using q)⟩) (fun fs hr => hEF ▸ pre51 _ (X50.returnOut hx Bd.returns (B d3_90) hr))
abbrev rKGA : Room := { frames := 0, cells := 0, slots := 0, locals := 0 }
theorem d4_0 : decode prog_23_method_6_code 0 = .ok (.aload_n 0, 1) := by decide +kernel
theorem d4_1 : decode prog_23_method_6_code 1 = .ok (.getfield 25, 3) := by decide +kernel
theorem d4_4 : decode prog_23_method_6_code 4 = .ok (.dreturn, 1) := by decide +kernel
theorem efGA (m : MethodId) (a1 : Addr) : entryFrame m #[(.ref a1)] 1 = mkF m 0 #[rv a1] [] := by first | (simp [entryFrame, mkF, argsToLocals, Value.category]; done) | rfl
def QGA (Z : State) (a1 : Addr) (r : UInt64) (h0 : Heap) (n0 : Nat) (v : Option Value) (h : Heap) (L : List Loc) : Prop := v = some (.double r) ∧ Fr n0 L ∧ h = h0
set_option maxRecDepth 65536 in
set_option maxHeartbeats 40000000 in
theorem rmGA (l : Launch) (Z : State) (a0 : Array Value) (hw : HW a0 Z) (ws : List Jvm.Cond) (a1 : Addr) (r : UInt64) (h0 : Heap) (n0 : Nat) (Z0 : n0 ≤ h0.size) (F1 : Fld Z h0 a1 "com/example/uni_repos/unirepos/geo/Point" "latitude" "D" (.double r)) :
    MF l Z mN4 prog_23_method_6_code 1 (some .double) ws rKGA #[(.ref a1)] h0 (QGA Z a1 r h0 n0) := by
  refine MetFree.of_bodySF (plainFor_of_name pn1) hisR ?_
  intro p e s m args bl meth c s1 Bd hml0 hP hK
  obtain ⟨rfl, hZ, hh⟩ := hP
  have hx := Bd.exec
  have hby := Bd.bytes
  have B := @hb c _ hby
  have hown : s.vm.findClass "com/example/uni_repos/unirepos/geo/Point" = some m.cls := findClass_of_methodNamed Bd.named
  have hlk : meth.locks = false := BodyLoose.notSynchronized Bd
  have hrt : ∀ {v : Option Value}, meth.sig.returnType = none → v = none := fun h => by rw [Bd.returns] at h; cases h
  have X0 : Stand p l e rKGA s m #[(.ref a1)] bl meth c s1 [] 0 0 := Stand.of_body Bd
  have e0 : s1.heap = h0 := by rw [← hh, Bd.state]; rfl
  have N0 := Fr.nil n0
  obtain ⟨EF, hEF⟩ : ∃ f, f = entryFrame m #[(.ref a1)] 1 := ⟨_, rfl⟩
  have pre0 : Go p e bl s1 (mkF m 0 #[rv a1] []) s1 EF := fun t k => by rw [hEF]; exact castTop (efGA m a1) k
  have pre1 : Go p e bl s1 (mkF m 1 #[rv a1] [(.ref a1)]) s1 EF := fun t k => pre0 t (by
   exact XS.aloadN X0.here hx rfl (B d4_0) rfl rfl k)
  obtain ⟨T2, X2, e2, st2⟩ := getF X0 hx hZ hown (host := "") (Or.inl (hw _ (mW 27 rfl))) Via.refl e0 F1 (g := (mkF m 1 #[rv a1] [(.ref a1)])) rfl rfl (B d4_1)
  have pre3 : Go p e bl T2 (mkF m 4 #[rv a1] [(.double r)]) s1 EF := fun t k => pre1 t (st2 t k)
  exact fin1 X2 (v := some (.double r)) hrt hlk (wl rfl) (wl rfl) (by rw [e2]; exact ⟨rfl, N0, rfl⟩) (fun fs hr => hEF ▸ pre3 _ (retOut X2 hx Bd.returns rfl (Or.inr (Or.inr (Or.inl ⟨rfl, rfl, _, rfl⟩))) (B d4_4) hr))
abbrev rKGO : Room := { frames := 0, cells := 0, slots := 0, locals := 0 }
theorem d5_0 : decode prog_23_method_7_code 0 = .ok (.aload_n 0, 1) := by decide +kernel
theorem d5_1 : decode prog_23_method_7_code 1 = .ok (.getfield 31, 3) := by decide +kernel
theorem d5_4 : decode prog_23_method_7_code 4 = .ok (.dreturn, 1) := by decide +kernel
theorem efGO (m : MethodId) (a1 : Addr) : entryFrame m #[(.ref a1)] 1 = mkF m 0 #[rv a1] [] := by first | (simp [entryFrame, mkF, argsToLocals, Value.category]; done) | rfl
def QGO (Z : State) (a1 : Addr) (r : UInt64) (h0 : Heap) (n0 : Nat) (v : Option Value) (h : Heap) (L : List Loc) : Prop := v = some (.double r) ∧ Fr n0 L ∧ h = h0
set_option maxRecDepth 65536 in
set_option maxHeartbeats 40000000 in
theorem rmGO (l : Launch) (Z : State) (a0 : Array Value) (hw : HW a0 Z) (ws : List Jvm.Cond) (a1 : Addr) (r : UInt64) (h0 : Heap) (n0 : Nat) (Z0 : n0 ≤ h0.size) (F1 : Fld Z h0 a1 "com/example/uni_repos/unirepos/geo/Point" "longitude" "D" (.double r)) :
    MF l Z mN5 prog_23_method_7_code 1 (some .double) ws rKGO #[(.ref a1)] h0 (QGO Z a1 r h0 n0) := by
  refine MetFree.of_bodySF (plainFor_of_name pn1) hisR ?_
  intro p e s m args bl meth c s1 Bd hml0 hP hK
  obtain ⟨rfl, hZ, hh⟩ := hP
  have hx := Bd.exec
  have hby := Bd.bytes
  have B := @hb c _ hby
  have hown : s.vm.findClass "com/example/uni_repos/unirepos/geo/Point" = some m.cls := findClass_of_methodNamed Bd.named
  have hlk : meth.locks = false := BodyLoose.notSynchronized Bd
  have hrt : ∀ {v : Option Value}, meth.sig.returnType = none → v = none := fun h => by rw [Bd.returns] at h; cases h
  have X0 : Stand p l e rKGO s m #[(.ref a1)] bl meth c s1 [] 0 0 := Stand.of_body Bd
  have e0 : s1.heap = h0 := by rw [← hh, Bd.state]; rfl
  have N0 := Fr.nil n0
  obtain ⟨EF, hEF⟩ : ∃ f, f = entryFrame m #[(.ref a1)] 1 := ⟨_, rfl⟩
  have pre0 : Go p e bl s1 (mkF m 0 #[rv a1] []) s1 EF := fun t k => by rw [hEF]; exact castTop (efGO m a1) k
  have pre1 : Go p e bl s1 (mkF m 1 #[rv a1] [(.ref a1)]) s1 EF := fun t k => pre0 t (by
   exact XS.aloadN X0.here hx rfl (B d5_0) rfl rfl k)
  obtain ⟨T2, X2, e2, st2⟩ := getF X0 hx hZ hown (host := "") (Or.inl (hw _ (mW 29 rfl))) Via.refl e0 F1 (g := (mkF m 1 #[rv a1] [(.ref a1)])) rfl rfl (B d5_1)
  have pre3 : Go p e bl T2 (mkF m 4 #[rv a1] [(.double r)]) s1 EF := fun t k => pre1 t (st2 t k)
  exact fin1 X2 (v := some (.double r)) hrt hlk (wl rfl) (wl rfl) (by rw [e2]; exact ⟨rfl, N0, rfl⟩) (fun fs hr => hEF ▸ pre3 _ (retOut X2 hx Bd.returns rfl (Or.inr (Or.inr (Or.inl ⟨rfl, rfl, _, rfl⟩))) (B d5_4) hr))
abbrev rKN : Room := { frames := 0, cells := 0, slots := 0, locals := 0 }
theorem d6_0 : decode jdk_31_method_11_code 0 = .ok (.aload_n 0, 1) := by decide +kernel
theorem d6_1 : decode jdk_31_method_11_code 1 = .ok (.ifnonnull 12, 3) := by decide +kernel
theorem d6_13 : decode jdk_31_method_11_code 13 = .ok (.aload_n 0, 1) := by decide +kernel
theorem d6_14 : decode jdk_31_method_11_code 14 = .ok (.areturn, 1) := by decide +kernel
theorem pn2 : plainName "java/util/Objects" = true := by first | (simp [plainName, overriddenIn]; done) | decide +kernel
theorem efN (m : MethodId) (a1 : Addr) (a2 : Addr) : entryFrame m #[(.ref a1), (.ref a2)] 2 = mkF m 0 #[rv a1, rv a2] [] := by first | (simp [entryFrame, mkF, argsToLocals, Value.category]; done) | rfl
def QN (Z : State) (a1 : Addr) (a2 : Addr) (h0 : Heap) (n0 : Nat) (v : Option Value) (h : Heap) (L : List Loc) : Prop := v = some (.ref a1) ∧ Fr n0 L ∧ h = h0
set_option maxRecDepth 65536 in
set_option maxHeartbeats 40000000 in
theorem rmN (l : Launch) (Z : State) (a0 : Array Value) (hw : HW a0 Z) (ws : List Jvm.Cond) (a1 : Addr) (a2 : Addr) (h0 : Heap) (n0 : Nat) (Z0 : n0 ≤ h0.size) :
    MF l Z mN6 jdk_31_method_11_code 2 (some (.object "java/lang/Object")) ws rKN #[(.ref a1), (.ref a2)] h0 (QN Z a1 a2 h0 n0) := by
  refine MetFree.of_bodySF (plainFor_of_name pn2) hisR ?_
  intro p e s m args bl meth c s1 Bd hml0 hP hK
  obtain ⟨rfl, hZ, hh⟩ := hP
  have hx := Bd.exec
  have hby := Bd.bytes
  have B := @hb c _ hby
  have hown : s.vm.findClass "java/util/Objects" = some m.cls := findClass_of_methodNamed Bd.named
  have hlk : meth.locks = false := BodyLoose.notSynchronized Bd
  have hrt : ∀ {v : Option Value}, meth.sig.returnType = none → v = none := fun h => by rw [Bd.returns] at h; cases h
  have X0 : Stand p l e rKN s m #[(.ref a1), (.ref a2)] bl meth c s1 [] 0 0 := Stand.of_body Bd
  have e0 : s1.heap = h0 := by rw [← hh, Bd.state]; rfl
  have N0 := Fr.nil n0
  obtain ⟨EF, hEF⟩ : ∃ f, f = entryFrame m #[(.ref a1), (.ref a2)] 2 := ⟨_, rfl⟩
  have pre0 : Go p e bl s1 (mkF m 0 #[rv a1, rv a2] []) s1 EF := fun t k => by rw [hEF]; exact castTop (efN m a1 a2) k
  have pre1 : Go p e bl s1 (mkF m 14 #[rv a1, rv a2] [(.ref a1)]) s1 EF := fun t k => pre0 t (by
   refine XS.aloadN X0.here hx rfl (B d6_0) rfl rfl ?_
   refine XS.ifnonnullYes X0.here hx rfl (pc0 := 1) (pc' := 13) rfl (B d6_1) rfl (by decide) (by decide) ?_
   exact XS.aloadN X0.here hx rfl (B d6_13) rfl rfl k)
  exact fin1 X0 (v := some (.ref a1)) hrt hlk (wl rfl) (wl rfl) (by rw [e0]; exact ⟨rfl, N0, rfl⟩) (fun fs hr => hEF ▸ pre1 _ (retOut X0 hx Bd.returns rfl (Or.inr (Or.inr (Or.inr (Or.inr ⟨rfl, rfl, rfl⟩)))) (B d6_14) hr))
abbrev rKB : Room := { frames := 2, cells := 4, slots := 80, locals := 24 }
theorem d7_0 : decode prog_18_method_1_code 0 = .ok (.aload_n 0, 1) := by decide +kernel
theorem d7_1 : decode prog_18_method_1_code 1 = .ok (.invokespecial 1, 3) := by decide +kernel
theorem d7_4 : decode prog_18_method_1_code 4 = .ok (.aload_n 1, 1) := by decide +kernel
theorem d7_5 : decode prog_18_method_1_code 5 = .ok (.ldc 7, 2) := by decide +kernel
theorem d7_7 : decode prog_18_method_1_code 7 = .ok (.invokestatic 9, 3) := by decide +kernel
theorem d7_10 : decode prog_18_method_1_code 10 = .ok (.pop, 1) := by decide +kernel
theorem d7_11 : decode prog_18_method_1_code 11 = .ok (.aload_n 2, 1) := by decide +kernel
theorem d7_12 : decode prog_18_method_1_code 12 = .ok (.ldc 15, 2) := by decide +kernel
theorem d7_14 : decode prog_18_method_1_code 14 = .ok (.invokestatic 9, 3) := by decide +kernel
theorem d7_17 : decode prog_18_method_1_code 17 = .ok (.pop, 1) := by decide +kernel
theorem d7_18 : decode prog_18_method_1_code 18 = .ok (.aload_n 1, 1) := by decide +kernel
theorem d7_19 : decode prog_18_method_1_code 19 = .ok (.invokevirtual 17, 3) := by decide +kernel
theorem d7_22 : decode prog_18_method_1_code 22 = .ok (.aload_n 2, 1) := by decide +kernel
theorem d7_23 : decode prog_18_method_1_code 23 = .ok (.invokevirtual 17, 3) := by decide +kernel
theorem d7_26 : decode prog_18_method_1_code 26 = .ok (.dcmp .l, 1) := by decide +kernel
theorem d7_27 : decode prog_18_method_1_code 27 = .ok (.ifCond .le 24, 3) := by decide +kernel
theorem d7_51 : decode prog_18_method_1_code 51 = .ok (.aload_n 0, 1) := by decide +kernel
theorem d7_52 : decode prog_18_method_1_code 52 = .ok (.aload_n 1, 1) := by decide +kernel
theorem d7_53 : decode prog_18_method_1_code 53 = .ok (.putfield 32, 3) := by decide +kernel
theorem d7_56 : decode prog_18_method_1_code 56 = .ok (.aload_n 0, 1) := by decide +kernel
theorem d7_57 : decode prog_18_method_1_code 57 = .ok (.aload_n 2, 1) := by decide +kernel
theorem d7_58 : decode prog_18_method_1_code 58 = .ok (.putfield 37, 3) := by decide +kernel
theorem d7_61 : decode prog_18_method_1_code 61 = .ok (.return_, 1) := by decide +kernel
theorem pn3 : plainName "com/example/uni_repos/unirepos/geo/Box" = true := by first | (simp [plainName, overriddenIn]; done) | decide +kernel
theorem pd1 : parseMethodDescriptor "(Ljava/lang/Object;Ljava/lang/String;)Ljava/lang/Object;" = some ⟨[(.object "java/lang/Object"), (.object "java/lang/String")], some (.object "java/lang/Object")⟩ := by decide +kernel
theorem pd2 : parseMethodDescriptor "()D" = some ⟨[], some .double⟩ := by decide +kernel
theorem efB (m : MethodId) (a1 : Addr) (a2 : Addr) (a3 : Addr) : entryFrame m #[(.ref a1), (.ref a2), (.ref a3)] 3 = mkF m 0 #[rv a1, rv a2, rv a3] [] := by first | (simp [entryFrame, mkF, argsToLocals, Value.category]; done) | rfl
def QB (Z : State) (a1 : Addr) (a2 : Addr) (a3 : Addr) (d1 : UInt64) (d2 : UInt64) (h0 : Heap) (n0 : Nat) (v : Option Value) (h : Heap) (L : List Loc) : Prop := v = none ∧ Fr n0 L ∧ Keep h0 h [a1] ∧ Exa Z h a1 "com/example/uni_repos/unirepos/geo/Box" ∧ Fld Z h a1 "com/example/uni_repos/unirepos/geo/Box" "southWest" "Lcom/example/uni_repos/unirepos/geo/Point;" (.ref a2) ∧ Fld Z h a1 "com/example/uni_repos/unirepos/geo/Box" "northEast" "Lcom/example/uni_repos/unirepos/geo/Point;" (.ref a3)
set_option maxRecDepth 65536 in
set_option maxHeartbeats 40000000 in
theorem rmB (l : Launch) (Z : State) (a0 : Array Value) (hw : HW a0 Z) (ws : List Jvm.Cond) (a1 : Addr) (a2 : Addr) (a3 : Addr) (d1 : UInt64) (d2 : UInt64) (h0 : Heap) (n0 : Nat) (Z0 : n0 ≤ h0.size) (E1 : Exa Z h0 a1 "com/example/uni_repos/unirepos/geo/Box") (g_a1 : n0 ≤ a1) (F1 : Fld Z h0 a1 "com/example/uni_repos/unirepos/geo/Box" "southWest" "Lcom/example/uni_repos/unirepos/geo/Point;" .null) (F2 : Fld Z h0 a1 "com/example/uni_repos/unirepos/geo/Box" "northEast" "Lcom/example/uni_repos/unirepos/geo/Point;" .null) (E2 : Exa Z h0 a2 "com/example/uni_repos/unirepos/geo/Point") (E3 : Exa Z h0 a3 "com/example/uni_repos/unirepos/geo/Point") (F3 : Fld Z h0 a2 "com/example/uni_repos/unirepos/geo/Point" "latitude" "D" (.double d1)) (F4 : Fld Z h0 a3 "com/example/uni_repos/unirepos/geo/Point" "latitude" "D" (.double d2)) (hle : ¬ 0 < cmpValue (FP.dcmp d1 d2) .l) :
    MetFree l mN7 (head1 (Jvm.Cond.code mN7 prog_18_method_1_code 3 none :: ws) rKB) (fun a U => a = #[(.ref a1), (.ref a2), (.ref a3)] ∧ Z.Warmed39 U.vm ∧ U.heap = h0) (fun _ _ _ _ _ => True) (fun _ U o U' => ∃ v L, o = .returned v ∧ QB Z a1 a2 a3 d1 d2 h0 n0 v U'.heap L ∧ ReturnedEndW U o U' L rKB.cells rKB.slots) := by
  refine MetFree.of_bodySF (plainFor_of_name pn3) hisR ?_
  intro p e s m args bl meth c s1 Bd hml0 hP hK
  obtain ⟨rfl, hZ, hh⟩ := hP
  have hx := Bd.exec
  have hby := Bd.bytes
  have B := @hb c _ hby
  have hM := fun {n : Nat} (h : n = 3) => h.trans hml0.symm
  have hown : s.vm.findClass "com/example/uni_repos/unirepos/geo/Box" = some m.cls := findClass_of_methodNamed Bd.named
  have hnm := (name_of_methodNamed Bd.named Bd.method).1
  have X0 : Stand p l e rKB (s.setVm s.vm) m #[(.ref a1), (.ref a2), (.ref a3)] bl meth c s1 [] 0 0 := Stand.of_body Bd
  have e0 : s1.heap = h0 := by rw [← hh, Bd.state]; rfl
  have N0 := Fr.nil n0
  obtain ⟨EF, hEF⟩ : ∃ f, f = entryFrame m #[(.ref a1), (.ref a2), (.ref a3)] 3 := ⟨_, rfl⟩
  have pre0 : Go p e bl s1 (mkF m 0 #[rv a1, rv a2, rv a3] []) s1 EF := fun t k => by rw [hEF]; exact castTop (efB m a1 a2 a3) k
  have hZ0 : Z.Warmed39 (s.setVm s.vm).vm := hZ
  have hown0 : (s.setVm s.vm).vm.findClass "com/example/uni_repos/unirepos/geo/Box" = some m.cls := hown
  have hS0 : s.Since s.vm s.heap.size := (State.WarmedH.refl s).since _
  have hk0 : s.heap.size ≤ h0.size := by rw [← hh]; exact Nat.le_refl _
  have pre1 : Go p e bl s1 (mkF m 1 #[rv a1, rv a2, rv a3] [(.ref a1)]) s1 EF := fun t k => pre0 t (by
   exact XS.aloadN X0.here hx rfl (B d7_0) rfl rfl k)
  obtain ⟨_, _, ⟨T2, L2, k2, n2⟩, -, X2, ⟨Lc2, hQ2, l2, y2, z2⟩, st2⟩ := X0.specialBack hx (y := mN2) rfl hown0 (mvT hZ0 (hw _ (mW 37 rfl))) (mvT hZ0 (hw _ (mW 16 rfl))) (mvT hZ0 (hw _ (mW 19 rfl))) (by decide) (backOf (W := 0) (rmR l Z a0 hw [] a1 h0 n0 Z0) hZ0 (hw _ (mW 19 rfl)) (hw _ (mW 18 rfl)) (by decide) (by decide)) (g := (mkF m 1 #[rv a1, rv a2, rv a3] [(.ref a1)])) rfl (hM rfl) (Steps.refl _) (a := a1) (argsL := []) (rest := []) (lenOf pd0 rfl) rfl (Nat.le_of_eq rfl) (B d7_1) (fun _ _ => ⟨rfl, e0, wl rfl, wl rfl⟩)
  dsimp only [Pt.U, Pt.locs, Pt.cells, Pt.slots] at X2 l2 y2 z2 st2 hQ2
  subst l2 y2 z2
  obtain ⟨rfl, N2q, hq2⟩ := hQ2
  have N2 := Fr.app N0 N2q
  have pre3 : Go p e bl T2 (mkF m 4 #[rv a1, rv a2, rv a3] []) s1 EF := fun t k => pre1 t (st2.trans k)
  have e2 : T2.heap = h0 := hq2
  have pre4 : Go p e bl T2 (mkF m 5 #[rv a1, rv a2, rv a3] [(.ref a2)]) s1 EF := fun t k => pre3 t (by
   exact XS.aloadN X2.here hx rfl (B d7_4) rfl rfl k)
  obtain ⟨a5, T5, h5, k5, X5, e5, Et5, hS5, hk5, hZ5, hown5, st5⟩ := ldcS X2 hx hZ0 hown0 (hw _ (mW 38 rfl)) (own_wS hw) e2 hS0 hk0 (g := (mkF m 5 #[rv a1, rv a2, rv a3] [(.ref a2)])) rfl (B d7_5) (n := 36) (by decide) (by decide) (by decide) (by decide)
  have pre6 : Go p e bl T5 (mkF m 7 #[rv a1, rv a2, rv a3] [(.ref a5), (.ref a2)]) s1 EF := fun t k => pre4 t (st5 t k)
  have Z7 : n0 ≤ h5.size := Nat.le_trans Z0 Et5.1
  have K7 : Keep h0 h5 [a1] := (Keep.refl h0 [a1]).ext Et5
  obtain ⟨_, _, ⟨T8, L8, k8, n8⟩, -, X8, ⟨Lc8, hQ8, l8, y8, z8⟩, st8⟩ := Jvm.LawKit.callS X5 hx (y := mN6) hown5 (mvT hZ5 (hw _ (mW 46 rfl))) (mvT hZ5 (hw _ (mW 47 rfl))) (mvT hZ5 (hw _ (mW 48 rfl))) (mvT hZ5 (hw _ (mW 49 rfl))) (by decide) (backOf (W := 0) (rmN l Z a0 hw [] a2 a5 h5 n0 Z7) hZ5 (hw _ (mW 49 rfl)) (hw _ (mW 48 rfl)) (by decide) (by decide)) (g := (mkF m 7 #[rv a1, rv a2, rv a3] [(.ref a5), (.ref a2)])) rfl (hM rfl) (argsL := [(.ref a2), (.ref a5)]) (rest := []) (lenOf pd1 rfl) rfl (Nat.le_of_eq rfl) (B d7_7) (fun _ _ => ⟨rfl, e5, wl rfl, wl rfl⟩)
  dsimp only [Pt.U, Pt.locs, Pt.cells, Pt.slots] at X8 l8 y8 z8 st8 hQ8
  subst l8 y8 z8
  obtain ⟨rfl, N8q, hq8⟩ := hQ8
  have N8 := Fr.app N2 N8q
  have pre9 : Go p e bl T8 (mkF m 10 #[rv a1, rv a2, rv a3] [(.ref a2)]) s1 EF := fun t k => pre6 t (st8 t k)
  have e8 : T8.heap = h5 := hq8
  have pre10 : Go p e bl T8 (mkF m 12 #[rv a1, rv a2, rv a3] [(.ref a3)]) s1 EF := fun t k => pre9 t (by
   refine XS.pop X8.here hx rfl (B d7_10) rfl rfl ?_
   exact XS.aloadN X8.here hx rfl (B d7_11) rfl rfl k)
  obtain ⟨a11, T11, h11, k11, X11, e11, Et11, hS11, hk11, hZ11, hown11, st11⟩ := ldcS X8 hx hZ5 hown5 (hw _ (mW 50 rfl)) (own_wS hw) e8 hS5 hk5 (g := (mkF m 12 #[rv a1, rv a2, rv a3] [(.ref a3)])) rfl (B d7_12) (n := 36) (by decide) (by decide) (by decide) (by decide)
  have pre12 : Go p e bl T11 (mkF m 14 #[rv a1, rv a2, rv a3] [(.ref a11), (.ref a3)]) s1 EF := fun t k => pre10 t (st11 t k)
  have Z13 : n0 ≤ h11.size := Nat.le_trans Z7 Et11.1
  have K13 : Keep h0 h11 [a1] := K7.ext Et11
  obtain ⟨_, _, ⟨T14, L14, k14, n14⟩, -, X14, ⟨Lc14, hQ14, l14, y14, z14⟩, st14⟩ := Jvm.LawKit.callS X11 hx (y := mN6) hown11 (mvT hZ11 (hw _ (mW 46 rfl))) (mvT hZ11 (hw _ (mW 47 rfl))) (mvT hZ11 (hw _ (mW 48 rfl))) (mvT hZ11 (hw _ (mW 49 rfl))) (by decide) (backOf (W := 0) (rmN l Z a0 hw [] a3 a11 h11 n0 Z13) hZ11 (hw _ (mW 49 rfl)) (hw _ (mW 48 rfl)) (by decide) (by decide)) (g := (mkF m 14 #[rv a1, rv a2, rv a3] [(.ref a11), (.ref a3)])) rfl (hM rfl) (argsL := [(.ref a3), (.ref a11)]) (rest := []) (lenOf pd1 rfl) rfl (Nat.le_of_eq rfl) (B d7_14) (fun _ _ => ⟨rfl, e11, wl rfl, wl rfl⟩)
  dsimp only [Pt.U, Pt.locs, Pt.cells, Pt.slots] at X14 l14 y14 z14 st14 hQ14
  subst l14 y14 z14
  obtain ⟨rfl, N14q, hq14⟩ := hQ14
  have N14 := Fr.app N8 N14q
  have pre15 : Go p e bl T14 (mkF m 17 #[rv a1, rv a2, rv a3] [(.ref a3)]) s1 EF := fun t k => pre12 t (st14 t k)
  have e14 : T14.heap = h11 := hq14
  have pre16 : Go p e bl T14 (mkF m 19 #[rv a1, rv a2, rv a3] [(.ref a2)]) s1 EF := fun t k => pre15 t (by
   refine XS.pop X14.here hx rfl (B d7_17) rfl rfl ?_
   exact XS.aloadN X14.here hx rfl (B d7_18) rfl rfl k)
  obtain ⟨cq17, kq17, q17a, q17b, q17c⟩ := isOf hZ11 e14 ((E2.ext Et5).ext Et11)
  obtain ⟨_, _, ⟨T17, L17, k17, n17⟩, -, X17, ⟨Lc17, hQ17, l17, y17, z17⟩, st17⟩ := X14.virtualBack hx (y := mN4) (z := mN4) hown11 (mvT hZ11 (hw _ (mW 51 rfl))) (mvT hZ11 (hw _ (mW 52 rfl))) (notFace_of_selects (args := #[]) (mvT hZ11 (hw _ (mW 54 rfl)))) (mvT hZ11 (hw _ (mW 54 rfl))) (mvT hZ11 (hw _ (mW 53 rfl))) (by decide) (backOf (W := 0) (rmGA l Z a0 hw [] a2 d1 h11 n0 Z13 ((F3.ext Et5).ext Et11)) hZ11 (hw _ (mW 55 rfl)) (hw _ (mW 10 rfl)) (by decide) (by decide)) q17a q17c (g := (mkF m 19 #[rv a1, rv a2, rv a3] [(.ref a2)])) rfl (hM rfl) (Steps.refl _) (argsL := []) (rest := []) (lenOf pd2 rfl) rfl (Nat.le_of_eq rfl) (B d7_19) (fun _ _ => ⟨rfl, e14, wl rfl, wl rfl⟩)
  dsimp only [Pt.U, Pt.locs, Pt.cells, Pt.slots] at X17 l17 y17 z17 st17 hQ17
  subst l17 y17 z17
  obtain ⟨rfl, N17q, hq17⟩ := hQ17
  have N17 := Fr.app N14 N17q
  have pre18 : Go p e bl T17 (mkF m 22 #[rv a1, rv a2, rv a3] [(.double d1)]) s1 EF := fun t k => pre16 t (st17.trans k)
  have e17 : T17.heap = h11 := hq17
  have pre19 : Go p e bl T17 (mkF m 23 #[rv a1, rv a2, rv a3] [(.ref a3), (.double d1)]) s1 EF := fun t k => pre18 t (by
   exact XS.aloadN X17.here hx rfl (B d7_22) rfl rfl k)
  obtain ⟨cq20, kq20, q20a, q20b, q20c⟩ := isOf hZ11 e17 ((E3.ext Et5).ext Et11)
  obtain ⟨_, _, ⟨T20, L20, k20, n20⟩, -, X20, ⟨Lc20, hQ20, l20, y20, z20⟩, st20⟩ := X17.virtualBack hx (y := mN4) (z := mN4) hown11 (mvT hZ11 (hw _ (mW 51 rfl))) (mvT hZ11 (hw _ (mW 52 rfl))) (notFace_of_selects (args := #[]) (mvT hZ11 (hw _ (mW 54 rfl)))) (mvT hZ11 (hw _ (mW 54 rfl))) (mvT hZ11 (hw _ (mW 53 rfl))) (by decide) (backOf (W := 2) (rmGA l Z a0 hw [] a3 d2 h11 n0 Z13 ((F4.ext Et5).ext Et11)) hZ11 (hw _ (mW 55 rfl)) (hw _ (mW 10 rfl)) (by decide) (by decide)) q20a q20c (g := (mkF m 23 #[rv a1, rv a2, rv a3] [(.ref a3), (.double d1)])) rfl (hM rfl) (Steps.refl _) (argsL := []) (rest := [(.double d1)]) (lenOf pd2 rfl) rfl (Nat.le_of_eq rfl) (B d7_23) (fun _ _ => ⟨rfl, e17, wl rfl, wl rfl⟩)
  dsimp only [Pt.U, Pt.locs, Pt.cells, Pt.slots] at X20 l20 y20 z20 st20 hQ20
  subst l20 y20 z20
  obtain ⟨rfl, N20q, hq20⟩ := hQ20
  have N20 := Fr.app N17 N20q
  have pre21 : Go p e bl T20 (mkF m 26 #[rv a1, rv a2, rv a3] [(.double d2), (.double d1)]) s1 EF := fun t k => pre19 t (st20.trans k)
  have e20 : T20.heap = h11 := hq20
  have pre22 : Go p e bl T20 (mkF m 27 #[rv a1, rv a2, rv a3] [(.int (cmpValue (FP.dcmp d1 d2) .l))]) s1 EF := fun t k => pre21 t (by
   exact XS.dcmpS X20.here hx rfl (v := (cmpValue (FP.dcmp d1 d2) .l)) (B d7_26) rfl rfl k)
  have pre23 : Go p e bl T20 (mkF m 51 #[rv a1, rv a2, rv a3] []) s1 EF := fun t k => pre22 t (XS.ifYes X20.here hx rfl (pc0 := 27) (pc' := 51) rfl (B d7_27) rfl ((if0 _ _).trans (flt hle).2.2.2) (by decide) (by decide) k)
  have pre24 : Go p e bl T20 (mkF m 53 #[rv a1, rv a2, rv a3] [(.ref a2), (.ref a1)]) s1 EF := fun t k => pre23 t (by
   refine XS.aloadN X20.here hx rfl (B d7_51) rfl rfl ?_
   exact XS.aloadN X20.here hx rfl (B d7_52) rfl rfl k)
  obtain ⟨T25, h25, X25, e25, W25, st25⟩ := putF X20 hx hZ11 hown11 (host := "") (Or.inl (hw _ (mW 56 rfl))) Via.refl e20 ((F1.ext Et5).ext Et11) ((E1.ext Et5).ext Et11) (Or.inr ⟨(hw _ (mW 57 rfl)), rfl, hnm⟩) (hw _ (mW 32 rfl)) (ty := (.object "com/example/uni_repos/unirepos/geo/Point")) (by decide) rfl rfl (g := (mkF m 53 #[rv a1, rv a2, rv a3] [(.ref a2), (.ref a1)])) rfl rfl (B d7_53)
  have pre26 : Go p e bl T25 (mkF m 56 #[rv a1, rv a2, rv a3] []) s1 EF := fun t k => pre24 t (st25 t k)
  have Z27 : n0 ≤ h25.size := Nat.le_trans Z13 (Keep.of_wr W25).1
  have hk27 := Nat.le_trans hk11 (Keep.of_wr W25).1
  have K27 : Keep h0 h25 [a1] := K13.wr W25 (Or.inl (List.mem_of_getElem? (i := 0) rfl))
  have Fw25 := Fld.same W25 ((F1.ext Et5).ext Et11)
  have N25 := Fr.snoc X25 N20 g_a1
  have pre28 : Go p e bl T25 (mkF m 58 #[rv a1, rv a2, rv a3] [(.ref a3), (.ref a1)]) s1 EF := fun t k => pre26 t (by
   refine XS.aloadN X25.here hx rfl (B d7_56) rfl rfl ?_
   exact XS.aloadN X25.here hx rfl (B d7_57) rfl rfl k)
  obtain ⟨T29, h29, X29, e29, W29, st29⟩ := putF X25 hx hZ11 hown11 (host := "") (Or.inl (hw _ (mW 58 rfl))) Via.refl e25 (Fld.other W25 ((F2.ext Et5).ext Et11) (Or.inr (slot_ne (Or.inr (hw _ (mW 59 rfl))) (Or.inr (hw _ (mW 57 rfl))) (by decide) (t := (.object "com/example/uni_repos/unirepos/geo/Point")) (t' := (.object "com/example/uni_repos/unirepos/geo/Point")) (by decide) (by decide)))) (((E1.ext Et5).ext Et11).wr W25) (Or.inr ⟨(hw _ (mW 59 rfl)), rfl, hnm⟩) (hw _ (mW 32 rfl)) (ty := (.object "com/example/uni_repos/unirepos/geo/Point")) (by decide) rfl rfl (g := (mkF m 58 #[rv a1, rv a2, rv a3] [(.ref a3), (.ref a1)])) rfl rfl (B d7_58)
  have pre30 : Go p e bl T29 (mkF m 61 #[rv a1, rv a2, rv a3] []) s1 EF := fun t k => pre28 t (st29 t k)
  have Z31 : n0 ≤ h29.size := Nat.le_trans Z27 (Keep.of_wr W29).1
  have hk31 := Nat.le_trans hk27 (Keep.of_wr W29).1
  have K31 : Keep h0 h29 [a1] := K27.wr W29 (Or.inl (List.mem_of_getElem? (i := 0) rfl))
  have Fw29 := Fld.same W29 (Fld.other W25 ((F2.ext Et5).ext Et11) (Or.inr (slot_ne (Or.inr (hw _ (mW 59 rfl))) (Or.inr (hw _ (mW 57 rfl))) (by decide) (t := (.object "com/example/uni_repos/unirepos/geo/Point")) (t' := (.object "com/example/uni_repos/unirepos/geo/Point")) (by decide) (by decide))))
  have N29 := Fr.snoc X29 N25 g_a1
  obtain ⟨fs, hr, hrun, hended, hend1, hend2, hend3, hsame⟩ := X29.leaveW hS11 (by rw [e29]; exact hk31) (v := none) (fun _ => rfl)
  refine ⟨_, _, hEF ▸ pre30 _ (X29.returnOut hx Bd.returns (B d7_61) hr), hrun, hended, _, _, rfl, ?_, hend1, hend2, hend3, hsame.mono (by decide) (by decide)⟩
  show QB Z a1 a2 a3 d1 d2 h0 n0 _ T29.heap _
  rw [e29]
  exact ⟨rfl, N29, K31, ((((E1.ext Et5).ext Et11).wr W25).wr W29), (Fld.other W29 Fw25 (Or.inr (slot_ne (Or.inr (hw _ (mW 57 rfl))) (Or.inr (hw _ (mW 59 rfl))) (by decide) (t := (.object "com/example/uni_repos/unirepos/geo/Point")) (t' := (.object "com/example/uni_repos/unirepos/geo/Point")) (by decide) (by decide)))), Fw29⟩
abbrev rKX : Room := { frames := 1, cells := 0, slots := 0, locals := 14 }
theorem d8_0 : decode prog_18_method_2_code 0 = .ok (.aload_n 0, 1) := by decide +kernel
theorem d8_1 : decode prog_18_method_2_code 1 = .ok (.getfield 32, 3) := by decide +kernel
theorem d8_4 : decode prog_18_method_2_code 4 = .ok (.invokevirtual 39, 3) := by decide +kernel
theorem d8_7 : decode prog_18_method_2_code 7 = .ok (.aload_n 0, 1) := by decide +kernel
theorem d8_8 : decode prog_18_method_2_code 8 = .ok (.getfield 37, 3) := by decide +kernel
theorem d8_11 : decode prog_18_method_2_code 11 = .ok (.invokevirtual 39, 3) := by decide +kernel
theorem d8_14 : decode prog_18_method_2_code 14 = .ok (.dcmp .l, 1) := by decide +kernel
theorem d8_15 : decode prog_18_method_2_code 15 = .ok (.ifCond .le 7, 3) := by decide +kernel
theorem d8_18 : decode prog_18_method_2_code 18 = .ok (.iconst 1, 1) := by decide +kernel
theorem d8_19 : decode prog_18_method_2_code 19 = .ok (.goto 4, 3) := by decide +kernel
theorem d8_22 : decode prog_18_method_2_code 22 = .ok (.iconst 0, 1) := by decide +kernel
theorem d8_23 : decode prog_18_method_2_code 23 = .ok (.ireturn, 1) := by decide +kernel
theorem efX (m : MethodId) (a1 : Addr) : entryFrame m #[(.ref a1)] 1 = mkF m 0 #[rv a1] [] := by first | (simp [entryFrame, mkF, argsToLocals, Value.category]; done) | rfl
def QX (Z : State) (a1 : Addr) (a2 : Addr) (a3 : Addr) (d1 : UInt64) (d2 : UInt64) (r : Int32) (h0 : Heap) (n0 : Nat) (v : Option Value) (h : Heap) (L : List Loc) : Prop := v = some (.int r) ∧ Fr n0 L ∧ h = h0
set_option maxRecDepth 65536 in
set_option maxHeartbeats 40000000 in
theorem rmX (l : Launch) (Z : State) (a0 : Array Value) (hw : HW a0 Z) (ws : List Jvm.Cond) (a1 : Addr) (a2 : Addr) (a3 : Addr) (d1 : UInt64) (d2 : UInt64) (r : Int32) (h0 : Heap) (n0 : Nat) (Z0 : n0 ≤ h0.size) (F1 : Fld Z h0 a1 "com/example/uni_repos/unirepos/geo/Box" "southWest" "Lcom/example/uni_repos/unirepos/geo/Point;" (.ref a2)) (F2 : Fld Z h0 a1 "com/example/uni_repos/unirepos/geo/Box" "northEast" "Lcom/example/uni_repos/unirepos/geo/Point;" (.ref a3)) (E2 : Exa Z h0 a2 "com/example/uni_repos/unirepos/geo/Point") (E3 : Exa Z h0 a3 "com/example/uni_repos/unirepos/geo/Point") (F3 : Fld Z h0 a2 "com/example/uni_repos/unirepos/geo/Point" "longitude" "D" (.double d1)) (F4 : Fld Z h0 a3 "com/example/uni_repos/unirepos/geo/Point" "longitude" "D" (.double d2)) (hR : (if 0 < cmpValue (FP.dcmp d1 d2) .l then 1 else 0) = r) :
    MF l Z mN8 prog_18_method_2_code 1 (some .boolean) ws rKX #[(.ref a1)] h0 (QX Z a1 a2 a3 d1 d2 r h0 n0) := by
  refine MetFree.of_bodySF (plainFor_of_name pn3) hisR ?_
  intro p e s m args bl meth c s1 Bd hml0 hP hK
  obtain ⟨rfl, hZ, hh⟩ := hP
  have hx := Bd.exec
  have hby := Bd.bytes
  have B := @hb c _ hby
  have hM := fun {n : Nat} (h : n = 1) => h.trans hml0.symm
  have hown : s.vm.findClass "com/example/uni_repos/unirepos/geo/Box" = some m.cls := findClass_of_methodNamed Bd.named
  have hlk : meth.locks = false := BodyLoose.notSynchronized Bd
  have hrt : ∀ {v : Option Value}, meth.sig.returnType = none → v = none := fun h => by rw [Bd.returns] at h; cases h
  have X0 : Stand p l e rKX s m #[(.ref a1)] bl meth c s1 [] 0 0 := Stand.of_body Bd
  have e0 : s1.heap = h0 := by rw [← hh, Bd.state]; rfl
  have N0 := Fr.nil n0
  obtain ⟨EF, hEF⟩ : ∃ f, f = entryFrame m #[(.ref a1)] 1 := ⟨_, rfl⟩
  have pre0 : Go p e bl s1 (mkF m 0 #[rv a1] []) s1 EF := fun t k => by rw [hEF]; exact castTop (efX m a1) k
  have pre1 : Go p e bl s1 (mkF m 1 #[rv a1] [(.ref a1)]) s1 EF := fun t k => pre0 t (by
   exact XS.aloadN X0.here hx rfl (B d8_0) rfl rfl k)
  obtain ⟨T2, X2, e2, st2⟩ := getF X0 hx hZ hown (host := "") (Or.inl (hw _ (mW 56 rfl))) Via.refl e0 F1 (g := (mkF m 1 #[rv a1] [(.ref a1)])) rfl rfl (B d8_1)
  have pre3 : Go p e bl T2 (mkF m 4 #[rv a1] [(.ref a2)]) s1 EF := fun t k => pre1 t (st2 t k)
  obtain ⟨cq4, kq4, q4a, q4b, q4c⟩ := isOf hZ e2 E2
  obtain ⟨_, _, ⟨T4, L4, k4, n4⟩, -, X4, ⟨Lc4, hQ4, l4, y4, z4⟩, st4⟩ := X2.virtualBack hx (y := mN5) (z := mN5) hown (mvT hZ (hw _ (mW 65 rfl))) (mvT hZ (hw _ (mW 66 rfl))) (notFace_of_selects (args := #[]) (mvT hZ (hw _ (mW 68 rfl)))) (mvT hZ (hw _ (mW 68 rfl))) (mvT hZ (hw _ (mW 67 rfl))) (by decide) (backOf (W := 0) (rmGO l Z a0 hw [] a2 d1 h0 n0 Z0 F3) hZ (hw _ (mW 69 rfl)) (hw _ (mW 10 rfl)) (by decide) (by decide)) q4a q4c (g := (mkF m 4 #[rv a1] [(.ref a2)])) rfl (hM rfl) (Steps.refl _) (argsL := []) (rest := []) (lenOf pd2 rfl) rfl (Nat.le_of_eq rfl) (B d8_4) (fun _ _ => ⟨rfl, e2, wl rfl, wl rfl⟩)
  dsimp only [Pt.U, Pt.locs, Pt.cells, Pt.slots] at X4 l4 y4 z4 st4 hQ4
  subst l4 y4 z4
  obtain ⟨rfl, N4q, hq4⟩ := hQ4
  have N4 := Fr.app N0 N4q
  have pre5 : Go p e bl T4 (mkF m 7 #[rv a1] [(.double d1)]) s1 EF := fun t k => pre3 t (st4.trans k)
  have e4 : T4.heap = h0 := hq4
  have pre6 : Go p e bl T4 (mkF m 8 #[rv a1] [(.ref a1), (.double d1)]) s1 EF := fun t k => pre5 t (by
   exact XS.aloadN X4.here hx rfl (B d8_7) rfl rfl k)
  obtain ⟨T7, X7, e7, st7⟩ := getF X4 hx hZ hown (host := "") (Or.inl (hw _ (mW 58 rfl))) Via.refl e4 F2 (g := (mkF m 8 #[rv a1] [(.ref a1), (.double d1)])) rfl rfl (B d8_8)
  have pre8 : Go p e bl T7 (mkF m 11 #[rv a1] [(.ref a3), (.double d1)]) s1 EF := fun t k => pre6 t (st7 t k)
  obtain ⟨cq9, kq9, q9a, q9b, q9c⟩ := isOf hZ e7 E3
  obtain ⟨_, _, ⟨T9, L9, k9, n9⟩, -, X9, ⟨Lc9, hQ9, l9, y9, z9⟩, st9⟩ := X7.virtualBack hx (y := mN5) (z := mN5) hown (mvT hZ (hw _ (mW 65 rfl))) (mvT hZ (hw _ (mW 66 rfl))) (notFace_of_selects (args := #[]) (mvT hZ (hw _ (mW 68 rfl)))) (mvT hZ (hw _ (mW 68 rfl))) (mvT hZ (hw _ (mW 67 rfl))) (by decide) (backOf (W := 2) (rmGO l Z a0 hw [] a3 d2 h0 n0 Z0 F4) hZ (hw _ (mW 69 rfl)) (hw _ (mW 10 rfl)) (by decide) (by decide)) q9a q9c (g := (mkF m 11 #[rv a1] [(.ref a3), (.double d1)])) rfl (hM rfl) (Steps.refl _) (argsL := []) (rest := [(.double d1)]) (lenOf pd2 rfl) rfl (Nat.le_of_eq rfl) (B d8_11) (fun _ _ => ⟨rfl, e7, wl rfl, wl rfl⟩)
  dsimp only [Pt.U, Pt.locs, Pt.cells, Pt.slots] at X9 l9 y9 z9 st9 hQ9
  subst l9 y9 z9
  obtain ⟨rfl, N9q, hq9⟩ := hQ9
  have N9 := Fr.app N4 N9q
  have pre10 : Go p e bl T9 (mkF m 14 #[rv a1] [(.double d2), (.double d1)]) s1 EF := fun t k => pre8 t (st9.trans k)
  have e9 : T9.heap = h0 := hq9
  have pre11 : Go p e bl T9 (mkF m 15 #[rv a1] [(.int (cmpValue (FP.dcmp d1 d2) .l))]) s1 EF := fun t k => pre10 t (by
   exact XS.dcmpS X9.here hx rfl (v := (cmpValue (FP.dcmp d1 d2) .l)) (B d8_14) rfl rfl k)
  by_cases hc15 : (0 : Int32) < (cmpValue (FP.dcmp d1 d2) .l)
  · have pre12 : Go p e bl T9 (mkF m 18 #[rv a1] []) s1 EF := fun t k => pre11 t (XS.ifNo X9.here hx rfl (B d8_15) rfl ((if0 _ _).trans (tlt hc15).2.2.2) k)
    have pre13 : Go p e bl T9 (mkF m 23 #[rv a1] [(.int (1 : Int32))]) s1 EF := fun t k => pre12 t (by
     refine XS.iconst X9.here hx rfl (B d8_18) ?_
     exact XS.goto X9.here hx rfl (pc0 := 19) (pc' := 23) rfl (B d8_19) (by decide) (by decide) k)
    have hnr : Value.int (nar .boolean (1 : Int32)) = (.int (1 : Int32)) := by rfl
    exact fin1 X9 (v := some (.int (1 : Int32))) hrt hlk (wl rfl) (wl rfl) (by rw [e9]; exact ⟨by rw [← hR, if_pos hc15], N9, rfl⟩) (fun fs hr => hEF ▸ pre13 _ (retN X9 hx (t := .boolean) Bd.returns (by simp) (B d8_23) (hnr ▸ hr)))
  have pre14 : Go p e bl T9 (mkF m 22 #[rv a1] []) s1 EF := fun t k => pre11 t (XS.ifYes X9.here hx rfl (pc0 := 15) (pc' := 22) rfl (B d8_15) rfl ((if0 _ _).trans (flt hc15).2.2.2) (by decide) (by decide) k)
  have pre15 : Go p e bl T9 (mkF m 23 #[rv a1] [(.int (0 : Int32))]) s1 EF := fun t k => pre14 t (by
   exact XS.iconst X9.here hx rfl (B d8_22) k)
  have hnr : Value.int (nar .boolean (0 : Int32)) = (.int (0 : Int32)) := by rfl
  exact fin1 X9 (v := some (.int (0 : Int32))) hrt hlk (wl rfl) (wl rfl) (by rw [e9]; exact ⟨by rw [← hR, if_neg hc15], N9, rfl⟩) (fun fs hr => hEF ▸ pre15 _ (retN X9 hx (t := .boolean) Bd.returns (by simp) (B d8_23) (hnr ▸ hr)))
theorem pn4 : plainName "com/example/uni_repos/unirepos/geo/BoxCrossesAntimeridianPinLaw" = true := by first | (simp [plainName, overriddenIn]; done) | decide +kernel
theorem pd3 : parseMethodDescriptor "(II)I" = some ⟨[.int, .int], some .int⟩ := by decide +kernel
theorem pd4 : parseMethodDescriptor "(DD)V" = some ⟨[.double, .double], none⟩ := by decide +kernel
theorem pd5 : parseMethodDescriptor "(Lcom/example/uni_repos/unirepos/geo/Point;Lcom/example/uni_repos/unirepos/geo/Point;)V" = some ⟨[(.object "com/example/uni_repos/unirepos/geo/Point"), (.object "com/example/uni_repos/unirepos/geo/Point")], none⟩ := by decide +kernel
theorem pd6 : parseMethodDescriptor "()Z" = some ⟨[], some .boolean⟩ := by decide +kernel
theorem efL (m : MethodId) (p1 : Int32) (p2 : Int32) (p3 : Int32) (p4 : Int32) (p5 : Int32) : entryFrame m #[(.int p1), (.int p2), (.int p3), (.int p4), (.int p5)] maxLocals = mkF m 0 #[iv p1, iv p2, iv p3, iv p4, iv p5, .unset, .unset, .unset, .unset, .unset, .unset, .unset, .unset, .unset, .unset, .unset] [] := by first | (simp [entryFrame, mkF, argsToLocals, Value.category, maxLocals]; done) | rfl
def QL (Z : State) (p1 : Int32) (p2 : Int32) (p3 : Int32) (p4 : Int32) (p5 : Int32) (h0 : Heap) (n0 : Nat) (v : Option Value) (h : Heap) (L : List Loc) : Prop := v = some (.int 1) ∧ Fr n0 L
set_option maxRecDepth 65536 in
set_option maxHeartbeats 40000000 in
theorem rmL (l : Launch) (Z : State) (a0 : Array Value) (hw : HW a0 Z) (ws : List Jvm.Cond) (p1 : Int32) (p2 : Int32) (p3 : Int32) (p4 : Int32) (p5 : Int32) (h0 : Heap) (n0 : Nat) (Z0 : n0 ≤ h0.size) :
    MetFree l x (head1 (Jvm.Cond.code x code maxLocals ret :: ws) room_1) (fun a U => a = #[(.int p1), (.int p2), (.int p3), (.int p4), (.int p5)] ∧ Z.Warmed39 U.vm ∧ U.heap = h0) (fun _ _ _ _ _ => True) (fun _ U o U' => ∃ v L, o = .returned v ∧ QL Z p1 p2 p3 p4 p5 h0 n0 v U'.heap L ∧ ReturnedEndW U o U' L room_1.cells room_1.slots) := by
  refine MetFree.of_bodySF (plainFor_of_name pn4) hisR ?_
  intro p e s m args bl meth c s1 Bd hml0 hP hK
  obtain ⟨rfl, hZ, hh⟩ := hP
  have hx := Bd.exec
  have hby := Bd.bytes
  have B := @hb c _ hby
  have hM := fun {n : Nat} (h : n = maxLocals) => h.trans hml0.symm
  have hown : s.vm.findClass "com/example/uni_repos/unirepos/geo/BoxCrossesAntimeridianPinLaw" = some m.cls := findClass_of_methodNamed Bd.named
  have X0 : Stand p l e room_1 (s.setVm s.vm) m #[(.int p1), (.int p2), (.int p3), (.int p4), (.int p5)] bl meth c s1 [] 0 0 := Stand.of_body Bd
  have e0 : s1.heap = h0 := by rw [← hh, Bd.state]; rfl
  have N0 := Fr.nil n0
  obtain ⟨EF, hEF⟩ : ∃ f, f = entryFrame m #[(.int p1), (.int p2), (.int p3), (.int p4), (.int p5)] maxLocals := ⟨_, rfl⟩
  have pre0 : Go p e bl s1 (mkF m 0 #[iv p1, iv p2, iv p3, iv p4, iv p5, .unset, .unset, .unset, .unset, .unset, .unset, .unset, .unset, .unset, .unset, .unset] []) s1 EF := fun t k => by rw [hEF]; exact castTop (efL m p1 p2 p3 p4 p5) k
  have hZ0 : Z.Warmed39 (s.setVm s.vm).vm := hZ
  have hown0 : (s.setVm s.vm).vm.findClass "com/example/uni_repos/unirepos/geo/BoxCrossesAntimeridianPinLaw" = some m.cls := hown
  have hS0 : s.Since s.vm s.heap.size := (State.WarmedH.refl s).since _
  have hk0 : s.heap.size ≤ h0.size := by rw [← hh]; exact Nat.le_refl _
  obtain ⟨la, e_la⟩ : ∃ z : Int32, z = (((p1 &&& (2147483647 : Int32)) % (181 : Int32)) - (90 : Int32)) := ⟨_, rfl⟩
  obtain ⟨lb, e_lb⟩ : ∃ z : Int32, z = (((p2 &&& (2147483647 : Int32)) % (181 : Int32)) - (90 : Int32)) := ⟨_, rfl⟩
  have pre1 : Go p e bl s1 (mkF m 30 #[iv p1, iv p2, iv p3, iv p4, iv p5, iv la, iv lb, .unset, .unset, .unset, .unset, .unset, .unset, .unset, .unset, .unset] [(.int lb), (.int la)]) s1 EF := fun t k => pre0 t (by
   refine XS.iloadN X0.here hx rfl (B at_0) rfl ?_
   refine X0.ldcInt hx hown0 (mvT hZ0 (hw _ (mW 0 rfl))) (g := (mkF m 1 #[iv p1, iv p2, iv p3, iv p4, iv p5, .unset, .unset, .unset, .unset, .unset, .unset, .unset, .unset, .unset, .unset, .unset] [(.int p1)])) rfl (B at_1) _ ?_
   refine XS.iand X0.here hx rfl (B at_3) rfl ?_
   refine XS.sipush X0.here hx rfl (B at_4) ?_
   refine iremM X0 hx rfl (B at_7) rfl (by decide) ?_
   refine XS.bipush X0.here hx rfl (B at_8) ?_
   refine XS.isub X0.here hx rfl (B at_10) rfl ?_
   refine XS.istore X0.here hx rfl (B at_11) rfl (l' := #[iv p1, iv p2, iv p3, iv p4, iv p5, iv la, .unset, .unset, .unset, .unset, .unset, .unset, .unset, .unset, .unset, .unset]) (by rw [e_la]; rfl) ?_
   refine XS.iloadN X0.here hx rfl (B at_13) rfl ?_
   refine X0.ldcInt hx hown0 (mvT hZ0 (hw _ (mW 0 rfl))) (g := (mkF m 14 #[iv p1, iv p2, iv p3, iv p4, iv p5, iv la, .unset, .unset, .unset, .unset, .unset, .unset, .unset, .unset, .unset, .unset] [(.int p2)])) rfl (B at_14) _ ?_
   refine XS.iand X0.here hx rfl (B at_16) rfl ?_
   refine XS.sipush X0.here hx rfl (B at_17) ?_
   refine iremM X0 hx rfl (B at_20) rfl (by decide) ?_
   refine XS.bipush X0.here hx rfl (B at_21) ?_
   refine XS.isub X0.here hx rfl (B at_23) rfl ?_
   refine XS.istore X0.here hx rfl (B at_24) rfl (l' := #[iv p1, iv p2, iv p3, iv p4, iv p5, iv la, iv lb, .unset, .unset, .unset, .unset, .unset, .unset, .unset, .unset, .unset]) (by rw [e_lb]; rfl) ?_
   refine XS.iload X0.here hx rfl (B at_26) rfl ?_
   exact XS.iload X0.here hx rfl (B at_28) rfl k)
  obtain ⟨_, _, ⟨T2, L2, k2, n2⟩, -, X2, ⟨Lc2, hQ2, l2, y2, z2⟩, st2⟩ := Jvm.LawKit.callS X0 hx (y := mN0) hown0 (mvT hZ0 (hw _ (mW 1 rfl))) (mvT hZ0 (hw _ (mW 2 rfl))) (mvT hZ0 (hw _ (mW 3 rfl))) (mvT hZ0 (hw _ (mW 4 rfl))) (by decide) (backOf (W := 0) (rmMi l Z a0 hw [] la lb (minF la lb) h0 n0 Z0 rfl) hZ0 (hw _ (mW 4 rfl)) (hw _ (mW 3 rfl)) (by decide) (by decide)) (g := (mkF m 30 #[iv p1, iv p2, iv p3, iv p4, iv p5, iv la, iv lb, .unset, .unset, .unset, .unset, .unset, .unset, .unset, .unset, .unset] [(.int lb), (.int la)])) rfl (hM rfl) (argsL := [(.int la), (.int lb)]) (rest := []) (lenOf pd3 rfl) rfl (Nat.le_of_eq rfl) (B at_30) (fun _ _ => ⟨rfl, e0, wl rfl, wl rfl⟩)
  dsimp only [Pt.U, Pt.locs, Pt.cells, Pt.slots] at X2 l2 y2 z2 st2 hQ2
  subst l2 y2 z2
  obtain ⟨rfl, N2q, hq2⟩ := hQ2
  have N2 := Fr.app N0 N2q
  have pre3 : Go p e bl T2 (mkF m 33 #[iv p1, iv p2, iv p3, iv p4, iv p5, iv la, iv lb, .unset, .unset, .unset, .unset, .unset, .unset, .unset, .unset, .unset] [(.int (minF la lb))]) s1 EF := fun t k => pre1 t (st2 t k)
  have e2 : T2.heap = h0 := hq2
  obtain ⟨so, e_so⟩ : ∃ z : Int32, z = (minF la lb) := ⟨_, rfl⟩
  have pre4 : Go p e bl T2 (mkF m 39 #[iv p1, iv p2, iv p3, iv p4, iv p5, iv la, iv lb, iv so, .unset, .unset, .unset, .unset, .unset, .unset, .unset, .unset] [(.int lb), (.int la)]) s1 EF := fun t k => pre3 t (by
   refine XS.istore X2.here hx rfl (B at_33) rfl (l' := #[iv p1, iv p2, iv p3, iv p4, iv p5, iv la, iv lb, iv so, .unset, .unset, .unset, .unset, .unset, .unset, .unset, .unset]) (by rw [e_so]; rfl) ?_
   refine XS.iload X2.here hx rfl (B at_35) rfl ?_
   exact XS.iload X2.here hx rfl (B at_37) rfl k)
  obtain ⟨_, _, ⟨T5, L5, k5, n5⟩, -, X5, ⟨Lc5, hQ5, l5, y5, z5⟩, st5⟩ := Jvm.LawKit.callS X2 hx (y := mN1) hown0 (mvT hZ0 (hw _ (mW 5 rfl))) (mvT hZ0 (hw _ (mW 6 rfl))) (mvT hZ0 (hw _ (mW 3 rfl))) (mvT hZ0 (hw _ (mW 7 rfl))) (by decide) (backOf (W := 0) (rmMa l Z a0 hw [] la lb (maxF la lb) h0 n0 Z0 rfl) hZ0 (hw _ (mW 7 rfl)) (hw _ (mW 3 rfl)) (by decide) (by decide)) (g := (mkF m 39 #[iv p1, iv p2, iv p3, iv p4, iv p5, iv la, iv lb, iv so, .unset, .unset, .unset, .unset, .unset, .unset, .unset, .unset] [(.int lb), (.int la)])) rfl (hM rfl) (argsL := [(.int la), (.int lb)]) (rest := []) (lenOf pd3 rfl) rfl (Nat.le_of_eq rfl) (B at_39) (fun _ _ => ⟨rfl, e2, wl rfl, wl rfl⟩)
  dsimp only [Pt.U, Pt.locs, Pt.cells, Pt.slots] at X5 l5 y5 z5 st5 hQ5
  subst l5 y5 z5
  obtain ⟨rfl, N5q, hq5⟩ := hQ5
  have N5 := Fr.app N2 N5q
  have pre6 : Go p e bl T5 (mkF m 42 #[iv p1, iv p2, iv p3, iv p4, iv p5, iv la, iv lb, iv so, .unset, .unset, .unset, .unset, .unset, .unset, .unset, .unset] [(.int (maxF la lb))]) s1 EF := fun t k => pre4 t (st5 t k)
  have e5 : T5.heap = h0 := hq5
  obtain ⟨no, e_no⟩ : ∃ z : Int32, z = (maxF la lb) := ⟨_, rfl⟩
  obtain ⟨w4, e_w4⟩ : ∃ z : Int32, z = (((p3 &&& (2147483647 : Int32)) % (1441 : Int32)) - (720 : Int32)) := ⟨_, rfl⟩
  obtain ⟨e0, e_e0⟩ : ∃ z : Int32, z = (((p4 &&& (2147483647 : Int32)) % (1441 : Int32)) - (720 : Int32)) := ⟨_, rfl⟩
  obtain ⟨md, e_md⟩ : ∃ z : Int32, z = (p5 &&& (3 : Int32)) := ⟨_, rfl⟩
  have pre7 : Go p e bl T5 (mkF m 78 #[iv p1, iv p2, iv p3, iv p4, iv p5, iv la, iv lb, iv so, iv no, iv w4, iv e0, iv md, .unset, .unset, .unset, .unset] []) s1 EF := fun t k => pre6 t (by
   refine XS.istore X5.here hx rfl (B at_42) rfl (l' := #[iv p1, iv p2, iv p3, iv p4, iv p5, iv la, iv lb, iv so, iv no, .unset, .unset, .unset, .unset, .unset, .unset, .unset]) (by rw [e_no]; rfl) ?_
   refine XS.iloadN X5.here hx rfl (B at_44) rfl ?_
   refine X5.ldcInt hx hown0 (mvT hZ0 (hw _ (mW 0 rfl))) (g := (mkF m 45 #[iv p1, iv p2, iv p3, iv p4, iv p5, iv la, iv lb, iv so, iv no, .unset, .unset, .unset, .unset, .unset, .unset, .unset] [(.int p3)])) rfl (B at_45) _ ?_
   refine XS.iand X5.here hx rfl (B at_47) rfl ?_
   refine XS.sipush X5.here hx rfl (B at_48) ?_
   refine iremM X5 hx rfl (B at_51) rfl (by decide) ?_
   refine XS.sipush X5.here hx rfl (B at_52) ?_
   refine XS.isub X5.here hx rfl (B at_55) rfl ?_
   refine XS.istore X5.here hx rfl (B at_56) rfl (l' := #[iv p1, iv p2, iv p3, iv p4, iv p5, iv la, iv lb, iv so, iv no, iv w4, .unset, .unset, .unset, .unset, .unset, .unset]) (by rw [e_w4]; rfl) ?_
   refine XS.iloadN X5.here hx rfl (B at_58) rfl ?_
   refine X5.ldcInt hx hown0 (mvT hZ0 (hw _ (mW 0 rfl))) (g := (mkF m 59 #[iv p1, iv p2, iv p3, iv p4, iv p5, iv la, iv lb, iv so, iv no, iv w4, .unset, .unset, .unset, .unset, .unset, .unset] [(.int p4)])) rfl (B at_59) _ ?_
   refine XS.iand X5.here hx rfl (B at_61) rfl ?_
   refine XS.sipush X5.here hx rfl (B at_62) ?_
   refine iremM X5 hx rfl (B at_65) rfl (by decide) ?_
   refine XS.sipush X5.here hx rfl (B at_66) ?_
   refine XS.isub X5.here hx rfl (B at_69) rfl ?_
   refine XS.istore X5.here hx rfl (B at_70) rfl (l' := #[iv p1, iv p2, iv p3, iv p4, iv p5, iv la, iv lb, iv so, iv no, iv w4, iv e0, .unset, .unset, .unset, .unset, .unset]) (by rw [e_e0]; rfl) ?_
   refine XS.iload X5.here hx rfl (B at_72) rfl ?_
   refine XS.iconst X5.here hx rfl (B at_74) ?_
   refine XS.iand X5.here hx rfl (B at_75) rfl ?_
   exact XS.istore X5.here hx rfl (B at_76) rfl (l' := #[iv p1, iv p2, iv p3, iv p4, iv p5, iv la, iv lb, iv so, iv no, iv w4, iv e0, iv md, .unset, .unset, .unset, .unset]) (by rw [e_md]; rfl) k)
  have rla : R90 la := e_la ▸ own_r181 _
  have rlb : R90 lb := e_lb ▸ own_r181 _
  have rmm := own_mm rla rlb
  rw [← e_so, ← e_no] at rmm
  have rw4 : R720 w4 := e_w4 ▸ own_r1441 _
  have re0 : R720 e0 := e_e0 ▸ own_r1441 _
  obtain ⟨T8, LJ8, e4, X8, N8, e8, hj8_0, pre8⟩ : ∃ (TJ : State) (LJ : List Loc) (e4 : Int32), Stand p l e room_1 (s.setVm s.vm) m #[(.int p1), (.int p2), (.int p3), (.int p4), (.int p5)] bl meth c TJ LJ 0 0 ∧ Fr n0 LJ ∧ TJ.heap = h0 ∧ (R720 e4) ∧ Go p e bl TJ (mkF m 129 #[iv p1, iv p2, iv p3, iv p4, iv p5, iv la, iv lb, iv so, iv no, iv w4, iv e4, iv md, .unset, .unset, .unset, .unset] []) s1 EF := by
    have pre9 : Go p e bl T5 (mkF m 80 #[iv p1, iv p2, iv p3, iv p4, iv p5, iv la, iv lb, iv so, iv no, iv w4, iv e0, iv md, .unset, .unset, .unset, .unset] [(.int md)]) s1 EF := fun t k => pre7 t (by
     exact XS.iload X5.here hx rfl (B at_78) rfl k)
    by_cases hc80 : md = (0 : Int32)
    · have pre10 : Go p e bl T5 (mkF m 83 #[iv p1, iv p2, iv p3, iv p4, iv p5, iv la, iv lb, iv so, iv no, iv w4, iv e0, iv md, .unset, .unset, .unset, .unset] []) s1 EF := fun t k => pre9 t (XS.ifNo X5.here hx rfl (B at_80) rfl ((if0 _ _).trans (teq hc80).2) k)
      have pre11 : Go p e bl T5 (mkF m 129 #[iv p1, iv p2, iv p3, iv p4, iv p5, iv la, iv lb, iv so, iv no, iv w4, iv w4, iv md, .unset, .unset, .unset, .unset] []) s1 EF := fun t k => pre10 t (by
       refine XS.iload X5.here hx rfl (B at_83) rfl ?_
       refine XS.istore X5.here hx rfl (B at_85) rfl (l' := #[iv p1, iv p2, iv p3, iv p4, iv p5, iv la, iv lb, iv so, iv no, iv w4, iv w4, iv md, .unset, .unset, .unset, .unset]) rfl ?_
       exact XS.goto X5.here hx rfl (pc0 := 87) (pc' := 129) rfl (B at_87) (by decide) (by decide) k)
      exact ⟨_, _, w4, X5, N5, e5, rw4, pre11⟩
    have pre12 : Go p e bl T5 (mkF m 90 #[iv p1, iv p2, iv p3, iv p4, iv p5, iv la, iv lb, iv so, iv no, iv w4, iv e0, iv md, .unset, .unset, .unset, .unset] []) s1 EF := fun t k => pre9 t (XS.ifYes X5.here hx rfl (pc0 := 80) (pc' := 90) rfl (B at_80) rfl ((if0 _ _).trans (feq hc80).2) (by decide) (by decide) k)
    have pre13 : Go p e bl T5 (mkF m 93 #[iv p1, iv p2, iv p3, iv p4, iv p5, iv la, iv lb, iv so, iv no, iv w4, iv e0, iv md, .unset, .unset, .unset, .unset] [(.int (1 : Int32)), (.int md)]) s1 EF := fun t k => pre12 t (by
     refine XS.iload X5.here hx rfl (B at_90) rfl ?_
     exact XS.iconst X5.here hx rfl (B at_92) k)
    by_cases hc93 : md = (1 : Int32)
    · have pre14 : Go p e bl T5 (mkF m 96 #[iv p1, iv p2, iv p3, iv p4, iv p5, iv la, iv lb, iv so, iv no, iv w4, iv e0, iv md, .unset, .unset, .unset, .unset] []) s1 EF := fun t k => pre13 t (XS.icmpNo X5.here hx rfl (B at_93) rfl (teq hc93).2 k)
      have pre15 : Go p e bl T5 (mkF m 103 #[iv p1, iv p2, iv p3, iv p4, iv p5, iv la, iv lb, iv so, iv no, iv w4, iv e0, iv md, .unset, .unset, .unset, .unset] [(.int (-720 : Int32)), (.int (w4 - (1 : Int32)))]) s1 EF := fun t k => pre14 t (by
       refine XS.iload X5.here hx rfl (B at_96) rfl ?_
       refine XS.iconst X5.here hx rfl (B at_98) ?_
       refine XS.isub X5.here hx rfl (B at_99) rfl ?_
       exact XS.sipush X5.here hx rfl (B at_100) k)
      obtain ⟨_, _, ⟨T16, L16, k16, n16⟩, -, X16, ⟨Lc16, hQ16, l16, y16, z16⟩, st16⟩ := Jvm.LawKit.callS X5 hx (y := mN1) hown0 (mvT hZ0 (hw _ (mW 5 rfl))) (mvT hZ0 (hw _ (mW 6 rfl))) (mvT hZ0 (hw _ (mW 3 rfl))) (mvT hZ0 (hw _ (mW 7 rfl))) (by decide) (backOf (W := 0) (rmMa l Z a0 hw [] (w4 - (1 : Int32)) (-720 : Int32) (maxF (w4 - (1 : Int32)) (-720 : Int32)) h0 n0 Z0 rfl) hZ0 (hw _ (mW 7 rfl)) (hw _ (mW 3 rfl)) (by decide) (by decide)) (g := (mkF m 103 #[iv p1, iv p2, iv p3, iv p4, iv p5, iv la, iv lb, iv so, iv no, iv w4, iv e0, iv md, .unset, .unset, .unset, .unset] [(.int (-720 : Int32)), (.int (w4 - (1 : Int32)))])) rfl (hM rfl) (argsL := [(.int (w4 - (1 : Int32))), (.int (-720 : Int32))]) (rest := []) (lenOf pd3 rfl) rfl (Nat.le_of_eq rfl) (B at_103) (fun _ _ => ⟨rfl, e5, wl rfl, wl rfl⟩)
      dsimp only [Pt.U, Pt.locs, Pt.cells, Pt.slots] at X16 l16 y16 z16 st16 hQ16
      subst l16 y16 z16
      obtain ⟨rfl, N16q, hq16⟩ := hQ16
      have N16 := Fr.app N5 N16q
      have pre17 : Go p e bl T16 (mkF m 106 #[iv p1, iv p2, iv p3, iv p4, iv p5, iv la, iv lb, iv so, iv no, iv w4, iv e0, iv md, .unset, .unset, .unset, .unset] [(.int (maxF (w4 - (1 : Int32)) (-720 : Int32)))]) s1 EF := fun t k => pre15 t (st16 t k)
      have e16 : T16.heap = h0 := hq16
      have pre18 : Go p e bl T16 (mkF m 129 #[iv p1, iv p2, iv p3, iv p4, iv p5, iv la, iv lb, iv so, iv no, iv w4, iv (maxF (w4 - (1 : Int32)) (-720 : Int32)), iv md, .unset, .unset, .unset, .unset] []) s1 EF := fun t k => pre17 t (by
       refine XS.istore X16.here hx rfl (B at_106) rfl (l' := #[iv p1, iv p2, iv p3, iv p4, iv p5, iv la, iv lb, iv so, iv no, iv w4, iv (maxF (w4 - (1 : Int32)) (-720 : Int32)), iv md, .unset, .unset, .unset, .unset]) rfl ?_
       exact XS.goto X16.here hx rfl (pc0 := 108) (pc' := 129) rfl (B at_108) (by decide) (by decide) k)
      exact ⟨_, _, (maxF (w4 - (1 : Int32)) (-720 : Int32)), X16, N16, e16, (own_mx rw4), pre18⟩
    have pre19 : Go p e bl T5 (mkF m 111 #[iv p1, iv p2, iv p3, iv p4, iv p5, iv la, iv lb, iv so, iv no, iv w4, iv e0, iv md, .unset, .unset, .unset, .unset] []) s1 EF := fun t k => pre13 t (XS.icmpYes X5.here hx rfl (pc0 := 93) (pc' := 111) rfl (B at_93) rfl (feq hc93).2 (by decide) (by decide) k)
    have pre20 : Go p e bl T5 (mkF m 114 #[iv p1, iv p2, iv p3, iv p4, iv p5, iv la, iv lb, iv so, iv no, iv w4, iv e0, iv md, .unset, .unset, .unset, .unset] [(.int (2 : Int32)), (.int md)]) s1 EF := fun t k => pre19 t (by
     refine XS.iload X5.here hx rfl (B at_111) rfl ?_
     exact XS.iconst X5.here hx rfl (B at_113) k)
    by_cases hc114 : md = (2 : Int32)
    · have pre21 : Go p e bl T5 (mkF m 117 #[iv p1, iv p2, iv p3, iv p4, iv p5, iv la, iv lb, iv so, iv no, iv w4, iv e0, iv md, .unset, .unset, .unset, .unset] []) s1 EF := fun t k => pre20 t (XS.icmpNo X5.here hx rfl (B at_114) rfl (teq hc114).2 k)
      have pre22 : Go p e bl T5 (mkF m 124 #[iv p1, iv p2, iv p3, iv p4, iv p5, iv la, iv lb, iv so, iv no, iv w4, iv e0, iv md, .unset, .unset, .unset, .unset] [(.int (720 : Int32)), (.int (w4 + (1 : Int32)))]) s1 EF := fun t k => pre21 t (by
       refine XS.iload X5.here hx rfl (B at_117) rfl ?_
       refine XS.iconst X5.here hx rfl (B at_119) ?_
       refine XS.iadd X5.here hx rfl (B at_120) rfl ?_
       exact XS.sipush X5.here hx rfl (B at_121) k)
      obtain ⟨_, _, ⟨T23, L23, k23, n23⟩, -, X23, ⟨Lc23, hQ23, l23, y23, z23⟩, st23⟩ := Jvm.LawKit.callS X5 hx (y := mN0) hown0 (mvT hZ0 (hw _ (mW 1 rfl))) (mvT hZ0 (hw _ (mW 2 rfl))) (mvT hZ0 (hw _ (mW 3 rfl))) (mvT hZ0 (hw _ (mW 4 rfl))) (by decide) (backOf (W := 0) (rmMi l Z a0 hw [] (w4 + (1 : Int32)) (720 : Int32) (minF (w4 + (1 : Int32)) (720 : Int32)) h0 n0 Z0 rfl) hZ0 (hw _ (mW 4 rfl)) (hw _ (mW 3 rfl)) (by decide) (by decide)) (g := (mkF m 124 #[iv p1, iv p2, iv p3, iv p4, iv p5, iv la, iv lb, iv so, iv no, iv w4, iv e0, iv md, .unset, .unset, .unset, .unset] [(.int (720 : Int32)), (.int (w4 + (1 : Int32)))])) rfl (hM rfl) (argsL := [(.int (w4 + (1 : Int32))), (.int (720 : Int32))]) (rest := []) (lenOf pd3 rfl) rfl (Nat.le_of_eq rfl) (B at_124) (fun _ _ => ⟨rfl, e5, wl rfl, wl rfl⟩)
      dsimp only [Pt.U, Pt.locs, Pt.cells, Pt.slots] at X23 l23 y23 z23 st23 hQ23
      subst l23 y23 z23
      obtain ⟨rfl, N23q, hq23⟩ := hQ23
      have N23 := Fr.app N5 N23q
      have pre24 : Go p e bl T23 (mkF m 127 #[iv p1, iv p2, iv p3, iv p4, iv p5, iv la, iv lb, iv so, iv no, iv w4, iv e0, iv md, .unset, .unset, .unset, .unset] [(.int (minF (w4 + (1 : Int32)) (720 : Int32)))]) s1 EF := fun t k => pre22 t (st23 t k)
      have e23 : T23.heap = h0 := hq23
      have pre25 : Go p e bl T23 (mkF m 129 #[iv p1, iv p2, iv p3, iv p4, iv p5, iv la, iv lb, iv so, iv no, iv w4, iv (minF (w4 + (1 : Int32)) (720 : Int32)), iv md, .unset, .unset, .unset, .unset] []) s1 EF := fun t k => pre24 t (by
       exact XS.istore X23.here hx rfl (B at_127) rfl (l' := #[iv p1, iv p2, iv p3, iv p4, iv p5, iv la, iv lb, iv so, iv no, iv w4, iv (minF (w4 + (1 : Int32)) (720 : Int32)), iv md, .unset, .unset, .unset, .unset]) rfl k)
      exact ⟨_, _, (minF (w4 + (1 : Int32)) (720 : Int32)), X23, N23, e23, (own_mn rw4), pre25⟩
    have pre26 : Go p e bl T5 (mkF m 129 #[iv p1, iv p2, iv p3, iv p4, iv p5, iv la, iv lb, iv so, iv no, iv w4, iv e0, iv md, .unset, .unset, .unset, .unset] []) s1 EF := fun t k => pre20 t (XS.icmpYes X5.here hx rfl (pc0 := 114) (pc' := 129) rfl (B at_114) rfl (feq hc114).2 (by decide) (by decide) k)
    exact ⟨_, _, e0, X5, N5, e5, re0, pre26⟩
  have re4 := hj8_0
  have hle := own_latle rmm.1 rmm.2.1 rmm.2.2
  obtain ⟨T27, h27, X27, e27, Et27, A27, D27, U27, st27⟩ := newO X8 hx hZ0 hown0 (hw _ (mW 8 rfl)) (hw _ (mW 9 rfl)) (hw _ (mW 10 rfl)) e8 (g := (mkF m 129 #[iv p1, iv p2, iv p3, iv p4, iv p5, iv la, iv lb, iv so, iv no, iv w4, iv e4, iv md, .unset, .unset, .unset, .unset] [])) rfl (B at_129) (by decide) (by decide)
  obtain ⟨b27, g27⟩ : ∃ z, z = h0.size := ⟨_, rfl⟩
  rw [← g27] at A27 st27 D27
  have g_b27 : n0 ≤ b27 := Nat.le_trans Z0 (Nat.le_of_eq g27.symm)
  have pre28 : Go p e bl T27 (mkF m 132 #[iv p1, iv p2, iv p3, iv p4, iv p5, iv la, iv lb, iv so, iv no, iv w4, iv e4, iv md, .unset, .unset, .unset, .unset] [(.ref b27)]) s1 EF := fun t k => pre8 t (st27 t k)
  have Z29 : n0 ≤ h27.size := Nat.le_trans Z0 Et27.1
  have hk29 := Nat.le_trans hk0 Et27.1
  have F_latitude_b27 : Fld Z h27 b27 "com/example/uni_repos/unirepos/geo/Point" "latitude" "D" (.double (0 : UInt64)) := D27 (Or.inr (hw _ (mW 28 rfl))) (ty := .double) (by decide)
  have F_longitude_b27 : Fld Z h27 b27 "com/example/uni_repos/unirepos/geo/Point" "longitude" "D" (.double (0 : UInt64)) := D27 (Or.inr (hw _ (mW 30 rfl))) (ty := .double) (by decide)
  have pre30 : Go p e bl T27 (mkF m 143 #[iv p1, iv p2, iv p3, iv p4, iv p5, iv la, iv lb, iv so, iv no, iv w4, iv e4, iv md, .unset, .unset, .unset, .unset] [(.double (lonB w4)), (.double (FP.i2d so)), (.ref b27), (.ref b27)]) s1 EF := fun t k => pre28 t (by
   refine XS.dup X27.here hx rfl (B at_132) rfl rfl ?_
   refine XS.iload X27.here hx rfl (B at_133) rfl ?_
   refine XS.i2dS X27.here hx rfl (v := FP.i2d so) (B at_135) rfl rfl ?_
   refine XS.iload X27.here hx rfl (B at_136) rfl ?_
   refine XS.i2dS X27.here hx rfl (v := FP.i2d w4) (B at_138) rfl rfl ?_
   refine X27.ldc2DoubleC hx hown0 (mvT hZ0 (hw _ (mW 11 rfl))) (g := (mkF m 139 #[iv p1, iv p2, iv p3, iv p4, iv p5, iv la, iv lb, iv so, iv no, iv w4, iv e4, iv md, .unset, .unset, .unset, .unset] [(.double (FP.i2d w4)), (.double (FP.i2d so)), (.ref b27), (.ref b27)])) rfl (B at_139) _ ?_
   exact XS.ddivS X27.here hx rfl (v := (lonB w4)) (B at_142) rfl (own_lon rw4).1 rfl k)
  obtain ⟨_, _, ⟨T31, L31, k31, n31⟩, -, X31, ⟨Lc31, hQ31, l31, y31, z31⟩, st31⟩ := X27.specialBack hx (y := mN3) rfl hown0 (mvT hZ0 (hw _ (mW 12 rfl))) (mvT hZ0 (hw _ (mW 13 rfl))) (mvT hZ0 (hw _ (mW 14 rfl))) (by decide) (backOf (W := 1) (rmP l Z a0 hw [] b27 (FP.i2d so) (lonB w4) h27 n0 Z29 A27 g_b27 F_latitude_b27 F_longitude_b27 (own_lat rmm.1) (own_lon rw4)) hZ0 (hw _ (mW 14 rfl)) (hw _ (mW 10 rfl)) (by decide) (by decide)) (g := (mkF m 143 #[iv p1, iv p2, iv p3, iv p4, iv p5, iv la, iv lb, iv so, iv no, iv w4, iv e4, iv md, .unset, .unset, .unset, .unset] [(.double (lonB w4)), (.double (FP.i2d so)), (.ref b27), (.ref b27)])) rfl (hM rfl) (Steps.refl _) (a := b27) (argsL := [(.double (FP.i2d so)), (.double (lonB w4))]) (rest := [(.ref b27)]) (lenOf pd4 rfl) rfl (Nat.le_of_eq rfl) (B at_143) (fun _ _ => ⟨rfl, e27, wl rfl, wl rfl⟩)
  dsimp only [Pt.U, Pt.locs, Pt.cells, Pt.slots] at X31 l31 y31 z31 st31 hQ31
  subst l31 y31 z31
  obtain ⟨rfl, N31q, K31, EP31, FA31, FO31⟩ := hQ31
  have N31 := Fr.app N8 N31q
  have pre32 : Go p e bl T31 (mkF m 146 #[iv p1, iv p2, iv p3, iv p4, iv p5, iv la, iv lb, iv so, iv no, iv w4, iv e4, iv md, .unset, .unset, .unset, .unset] [(.ref b27)]) s1 EF := fun t k => pre30 t (st31.trans k)
  have Z33 : n0 ≤ T31.heap.size := Nat.le_trans Z29 K31.1
  have hk33 := Nat.le_trans hk29 K31.1
  have pre34 : Go p e bl T31 (mkF m 148 #[iv p1, iv p2, iv p3, iv p4, iv p5, iv la, iv lb, iv so, iv no, iv w4, iv e4, iv md, rv b27, .unset, .unset, .unset] []) s1 EF := fun t k => pre32 t (by
   exact XS.astore X31.here hx rfl (B at_146) rfl rfl (l' := #[iv p1, iv p2, iv p3, iv p4, iv p5, iv la, iv lb, iv so, iv no, iv w4, iv e4, iv md, rv b27, .unset, .unset, .unset]) rfl k)
  obtain ⟨T35, h35, X35, e35, Et35, A35, D35, U35, st35⟩ := newO X31 hx hZ0 hown0 (hw _ (mW 8 rfl)) (hw _ (mW 9 rfl)) (hw _ (mW 10 rfl)) rfl (g := (mkF m 148 #[iv p1, iv p2, iv p3, iv p4, iv p5, iv la, iv lb, iv so, iv no, iv w4, iv e4, iv md, rv b27, .unset, .unset, .unset] [])) rfl (B at_148) (by decide) (by decide)
  obtain ⟨b35, g35⟩ : ∃ z, z = T31.heap.size := ⟨_, rfl⟩
  rw [← g35] at A35 st35 D35
  have g_b35 : n0 ≤ b35 := Nat.le_trans Z33 (Nat.le_of_eq g35.symm)
  have ne_b27_b35 : b27 ≠ b35 := Nat.ne_of_lt (Nat.lt_of_lt_of_le EP31.lt (Nat.le_of_eq g35.symm))
  have pre36 : Go p e bl T35 (mkF m 151 #[iv p1, iv p2, iv p3, iv p4, iv p5, iv la, iv lb, iv so, iv no, iv w4, iv e4, iv md, rv b27, .unset, .unset, .unset] [(.ref b35)]) s1 EF := fun t k => pre34 t (st35 t k)
  have Z37 : n0 ≤ h35.size := Nat.le_trans Z33 Et35.1
  have hk37 := Nat.le_trans hk33 Et35.1
  have F_latitude_b35 : Fld Z h35 b35 "com/example/uni_repos/unirepos/geo/Point" "latitude" "D" (.double (0 : UInt64)) := D35 (Or.inr (hw _ (mW 28 rfl))) (ty := .double) (by decide)
  have F_longitude_b35 : Fld Z h35 b35 "com/example/uni_repos/unirepos/geo/Point" "longitude" "D" (.double (0 : UInt64)) := D35 (Or.inr (hw _ (mW 30 rfl))) (ty := .double) (by decide)
  have pre38 : Go p e bl T35 (mkF m 162 #[iv p1, iv p2, iv p3, iv p4, iv p5, iv la, iv lb, iv so, iv no, iv w4, iv e4, iv md, rv b27, .unset, .unset, .unset] [(.double (lonB e4)), (.double (FP.i2d no)), (.ref b35), (.ref b35)]) s1 EF := fun t k => pre36 t (by
   refine XS.dup X35.here hx rfl (B at_151) rfl rfl ?_
   refine XS.iload X35.here hx rfl (B at_152) rfl ?_
   refine XS.i2dS X35.here hx rfl (v := FP.i2d no) (B at_154) rfl rfl ?_
   refine XS.iload X35.here hx rfl (B at_155) rfl ?_
   refine XS.i2dS X35.here hx rfl (v := FP.i2d e4) (B at_157) rfl rfl ?_
   refine X35.ldc2DoubleC hx hown0 (mvT hZ0 (hw _ (mW 11 rfl))) (g := (mkF m 158 #[iv p1, iv p2, iv p3, iv p4, iv p5, iv la, iv lb, iv so, iv no, iv w4, iv e4, iv md, rv b27, .unset, .unset, .unset] [(.double (FP.i2d e4)), (.double (FP.i2d no)), (.ref b35), (.ref b35)])) rfl (B at_158) _ ?_
   exact XS.ddivS X35.here hx rfl (v := (lonB e4)) (B at_161) rfl (own_lon re4).1 rfl k)
  obtain ⟨_, _, ⟨T39, L39, k39, n39⟩, -, X39, ⟨Lc39, hQ39, l39, y39, z39⟩, st39⟩ := X35.specialBack hx (y := mN3) rfl hown0 (mvT hZ0 (hw _ (mW 12 rfl))) (mvT hZ0 (hw _ (mW 13 rfl))) (mvT hZ0 (hw _ (mW 14 rfl))) (by decide) (backOf (W := 1) (rmP l Z a0 hw [] b35 (FP.i2d no) (lonB e4) h35 n0 Z37 A35 g_b35 F_latitude_b35 F_longitude_b35 (own_lat rmm.2.1) (own_lon re4)) hZ0 (hw _ (mW 14 rfl)) (hw _ (mW 10 rfl)) (by decide) (by decide)) (g := (mkF m 162 #[iv p1, iv p2, iv p3, iv p4, iv p5, iv la, iv lb, iv so, iv no, iv w4, iv e4, iv md, rv b27, .unset, .unset, .unset] [(.double (lonB e4)), (.double (FP.i2d no)), (.ref b35), (.ref b35)])) rfl (hM rfl) (Steps.refl _) (a := b35) (argsL := [(.double (FP.i2d no)), (.double (lonB e4))]) (rest := [(.ref b35)]) (lenOf pd4 rfl) rfl (Nat.le_of_eq rfl) (B at_162) (fun _ _ => ⟨rfl, e35, wl rfl, wl rfl⟩)
  dsimp only [Pt.U, Pt.locs, Pt.cells, Pt.slots] at X39 l39 y39 z39 st39 hQ39
  subst l39 y39 z39
  obtain ⟨rfl, N39q, K39, EP39, FA39, FO39⟩ := hQ39
  have N39 := Fr.app N31 N39q
  have pre40 : Go p e bl T39 (mkF m 165 #[iv p1, iv p2, iv p3, iv p4, iv p5, iv la, iv lb, iv so, iv no, iv w4, iv e4, iv md, rv b27, .unset, .unset, .unset] [(.ref b35)]) s1 EF := fun t k => pre38 t (st39.trans k)
  have Z41 : n0 ≤ T39.heap.size := Nat.le_trans Z37 K39.1
  have hk41 := Nat.le_trans hk37 K39.1
  have pre42 : Go p e bl T39 (mkF m 167 #[iv p1, iv p2, iv p3, iv p4, iv p5, iv la, iv lb, iv so, iv no, iv w4, iv e4, iv md, rv b27, rv b35, .unset, .unset] []) s1 EF := fun t k => pre40 t (by
   exact XS.astore X39.here hx rfl (B at_165) rfl rfl (l' := #[iv p1, iv p2, iv p3, iv p4, iv p5, iv la, iv lb, iv so, iv no, iv w4, iv e4, iv md, rv b27, rv b35, .unset, .unset]) rfl k)
  obtain ⟨T43, h43, X43, e43, Et43, A43, D43, U43, st43⟩ := newO X39 hx hZ0 hown0 (hw _ (mW 31 rfl)) (hw _ (mW 32 rfl)) (hw _ (mW 33 rfl)) rfl (g := (mkF m 167 #[iv p1, iv p2, iv p3, iv p4, iv p5, iv la, iv lb, iv so, iv no, iv w4, iv e4, iv md, rv b27, rv b35, .unset, .unset] [])) rfl (B at_167) (by decide) (by decide)
  obtain ⟨b43, g43⟩ : ∃ z, z = T39.heap.size := ⟨_, rfl⟩
  rw [← g43] at A43 st43 D43
  have g_b43 : n0 ≤ b43 := Nat.le_trans Z41 (Nat.le_of_eq g43.symm)
  have ne_b27_b43 : b27 ≠ b43 := Nat.ne_of_lt (Nat.lt_of_lt_of_le ((EP31.ext Et35).keep K39).lt (Nat.le_of_eq g43.symm))
  have ne_b35_b43 : b35 ≠ b43 := Nat.ne_of_lt (Nat.lt_of_lt_of_le EP39.lt (Nat.le_of_eq g43.symm))
  have pre44 : Go p e bl T43 (mkF m 170 #[iv p1, iv p2, iv p3, iv p4, iv p5, iv la, iv lb, iv so, iv no, iv w4, iv e4, iv md, rv b27, rv b35, .unset, .unset] [(.ref b43)]) s1 EF := fun t k => pre42 t (st43 t k)
  have Z45 : n0 ≤ h43.size := Nat.le_trans Z41 Et43.1
  have hk45 := Nat.le_trans hk41 Et43.1
  have F_southWest_b43 : Fld Z h43 b43 "com/example/uni_repos/unirepos/geo/Box" "southWest" "Lcom/example/uni_repos/unirepos/geo/Point;" .null := D43 (Or.inr (hw _ (mW 57 rfl))) (ty := (.object "com/example/uni_repos/unirepos/geo/Point")) (by decide)
  have F_northEast_b43 : Fld Z h43 b43 "com/example/uni_repos/unirepos/geo/Box" "northEast" "Lcom/example/uni_repos/unirepos/geo/Point;" .null := D43 (Or.inr (hw _ (mW 59 rfl))) (ty := (.object "com/example/uni_repos/unirepos/geo/Point")) (by decide)
  have pre46 : Go p e bl T43 (mkF m 175 #[iv p1, iv p2, iv p3, iv p4, iv p5, iv la, iv lb, iv so, iv no, iv w4, iv e4, iv md, rv b27, rv b35, .unset, .unset] [(.ref b35), (.ref b27), (.ref b43), (.ref b43)]) s1 EF := fun t k => pre44 t (by
   refine XS.dup X43.here hx rfl (B at_170) rfl rfl ?_
   refine XS.aload X43.here hx rfl (B at_171) rfl rfl ?_
   exact XS.aload X43.here hx rfl (B at_173) rfl rfl k)
  obtain ⟨_, _, ⟨T47, L47, k47, n47⟩, -, XQ47, hSQ47, hgQ47, ⟨Lc47, hQ47, l47, y47, z47⟩, st47⟩ := X43.specialBackS hx (y := mN7) rfl hown0 (mvT hZ0 (hw _ (mW 34 rfl))) (mvT hZ0 (hw _ (mW 35 rfl))) (mvT hZ0 (hw _ (mW 36 rfl))) (by decide) (backOfS (W := 1) (rmB l Z a0 hw [] b43 b27 b35 (nzD (FP.i2d so)) (nzD (FP.i2d no)) h43 n0 Z45 A43 g_b43 F_southWest_b43 F_northEast_b43 (((EP31.ext Et35).keep K39).ext Et43) (EP39.ext Et43) (((FA31.ext Et35).keep K39 (ninS ne_b27_b35 nin0)).ext Et43) (FA39.ext Et43) hle) hZ0 (hw _ (mW 36 rfl)) (hw _ (mW 33 rfl)) (by decide) (by decide)) (g := (mkF m 175 #[iv p1, iv p2, iv p3, iv p4, iv p5, iv la, iv lb, iv so, iv no, iv w4, iv e4, iv md, rv b27, rv b35, .unset, .unset] [(.ref b35), (.ref b27), (.ref b43), (.ref b43)])) rfl (hM rfl) (Steps.refl _) (a := b43) (argsL := [(.ref b27), (.ref b35)]) (rest := [(.ref b43)]) (lenOf pd5 rfl) rfl (Nat.le_of_eq rfl) (B at_175) (fun _ _ => ⟨rfl, e43, wl rfl, wl rfl⟩)
  dsimp only [Pt.U, Pt.locs, Pt.cells, Pt.slots] at XQ47 hSQ47 hgQ47 l47 y47 z47 st47 hQ47
  subst l47 y47 z47
  obtain ⟨X47, hS47, hZ47, hown47⟩ := rebS hS0 (by rw [e43]; exact hk45) XQ47 hSQ47 hgQ47 hZ0 hown0
  obtain ⟨rfl, N47q, K47, EB47, FS47, FE47⟩ := hQ47
  have N47 := Fr.app N39 N47q
  have pre48 : Go p e bl T47 (mkF m 178 #[iv p1, iv p2, iv p3, iv p4, iv p5, iv la, iv lb, iv so, iv no, iv w4, iv e4, iv md, rv b27, rv b35, .unset, .unset] [(.ref b43)]) s1 EF := fun t k => pre46 t (st47.trans k)
  have hk47 := Nat.le_refl T47.heap.size
  have Z49 : n0 ≤ T47.heap.size := Nat.le_trans Z45 K47.1
  have pre50 : Go p e bl T47 (mkF m 184 #[iv p1, iv p2, iv p3, iv p4, iv p5, iv la, iv lb, iv so, iv no, iv w4, iv e4, iv md, rv b27, rv b35, rv b43, .unset] [(.int e4), (.int w4)]) s1 EF := fun t k => pre48 t (by
   refine XS.astore X47.here hx rfl (B at_178) rfl rfl (l' := #[iv p1, iv p2, iv p3, iv p4, iv p5, iv la, iv lb, iv so, iv no, iv w4, iv e4, iv md, rv b27, rv b35, rv b43, .unset]) rfl ?_
   refine XS.iload X47.here hx rfl (B at_180) rfl ?_
   exact XS.iload X47.here hx rfl (B at_182) rfl k)
  by_cases hc184 : e4 < w4
  · have pre51 : Go p e bl T47 (mkF m 187 #[iv p1, iv p2, iv p3, iv p4, iv p5, iv la, iv lb, iv so, iv no, iv w4, iv e4, iv md, rv b27, rv b35, rv b43, .unset] []) s1 EF := fun t k => pre50 t (XS.icmpNo X47.here hx rfl (B at_184) rfl (tlt hc184).2.2.2 k)
    have pre52 : Go p e bl T47 (mkF m 196 #[iv p1, iv p2, iv p3, iv p4, iv p5, iv la, iv lb, iv so, iv no, iv w4, iv e4, iv md, rv b27, rv b35, rv b43, iv (1 : Int32)] [(.ref b43)]) s1 EF := fun t k => pre51 t (by
     refine XS.iconst X47.here hx rfl (B at_187) ?_
     refine XS.goto X47.here hx rfl (pc0 := 188) (pc' := 192) rfl (B at_188) (by decide) (by decide) ?_
     refine XS.istore X47.here hx rfl (B at_192) rfl (l' := #[iv p1, iv p2, iv p3, iv p4, iv p5, iv la, iv lb, iv so, iv no, iv w4, iv e4, iv md, rv b27, rv b35, rv b43, iv (1 : Int32)]) rfl ?_
     exact XS.aload X47.here hx rfl (B at_194) rfl rfl k)
    obtain ⟨cq53, kq53, q53a, q53b, q53c⟩ := isOf hZ47 rfl EB47
    obtain ⟨_, _, ⟨T53, L53, k53, n53⟩, -, X53, ⟨Lc53, hQ53, l53, y53, z53⟩, st53⟩ := X47.virtualBack hx (y := mN8) (z := mN8) hown47 (mvT hZ47 (hw _ (mW 60 rfl))) (mvT hZ47 (hw _ (mW 61 rfl))) (notFace_of_selects (args := #[]) (mvT hZ47 (hw _ (mW 63 rfl)))) (mvT hZ47 (hw _ (mW 63 rfl))) (mvT hZ47 (hw _ (mW 62 rfl))) (by decide) (backOf (W := 0) (rmX l Z a0 hw [] b43 b27 b35 (nzD (lonB w4)) (nzD (lonB e4)) (1 : Int32) T47.heap n0 Z49 FS47 FE47 ((((EP31.ext Et35).keep K39).ext Et43).keep K47) ((EP39.ext Et43).keep K47) ((((FO31.ext Et35).keep K39 (ninS ne_b27_b35 nin0)).ext Et43).keep K47 (ninS ne_b27_b43 nin0)) ((FO39.ext Et43).keep K47 (ninS ne_b35_b43 nin0)) (if_pos ((own_loncmp rw4 re4).mpr hc184))) hZ47 (hw _ (mW 64 rfl)) (hw _ (mW 33 rfl)) (by decide) (by decide)) q53a q53c (g := (mkF m 196 #[iv p1, iv p2, iv p3, iv p4, iv p5, iv la, iv lb, iv so, iv no, iv w4, iv e4, iv md, rv b27, rv b35, rv b43, iv (1 : Int32)] [(.ref b43)])) rfl (hM rfl) (Steps.refl _) (argsL := []) (rest := []) (lenOf pd6 rfl) rfl (Nat.le_of_eq rfl) (B at_196) (fun _ _ => ⟨rfl, rfl, wl rfl, wl rfl⟩)
    dsimp only [Pt.U, Pt.locs, Pt.cells, Pt.slots] at X53 l53 y53 z53 st53 hQ53
    subst l53 y53 z53
    obtain ⟨rfl, N53q, hq53⟩ := hQ53
    have N53 := Fr.app N47 N53q
    have pre54 : Go p e bl T53 (mkF m 199 #[iv p1, iv p2, iv p3, iv p4, iv p5, iv la, iv lb, iv so, iv no, iv w4, iv e4, iv md, rv b27, rv b35, rv b43, iv (1 : Int32)] [(.int (1 : Int32))]) s1 EF := fun t k => pre52 t (st53.trans k)
    have e53 : T53.heap = T47.heap := hq53
    have pre55 : Go p e bl T53 (mkF m 201 #[iv p1, iv p2, iv p3, iv p4, iv p5, iv la, iv lb, iv so, iv no, iv w4, iv e4, iv md, rv b27, rv b35, rv b43, iv (1 : Int32)] [(.int (1 : Int32)), (.int (1 : Int32))]) s1 EF := fun t k => pre54 t (by
     exact XS.iload X53.here hx rfl (B at_199) rfl k)
    have pre56 : Go p e bl T53 (mkF m 204 #[iv p1, iv p2, iv p3, iv p4, iv p5, iv la, iv lb, iv so, iv no, iv w4, iv e4, iv md, rv b27, rv b35, rv b43, iv (1 : Int32)] []) s1 EF := fun t k => pre55 t (XS.icmpNo X53.here hx rfl (B at_201) rfl (teq (by decide : (1 : Int32) = (1 : Int32))).2 k)
    have pre57 : Go p e bl T53 (mkF m 209 #[iv p1, iv p2, iv p3, iv p4, iv p5, iv la, iv lb, iv so, iv no, iv w4, iv e4, iv md, rv b27, rv b35, rv b43, iv (1 : Int32)] [(.int (1 : Int32))]) s1 EF := fun t k => pre56 t (by
     refine XS.iconst X53.here hx rfl (B at_204) ?_
     exact XS.goto X53.here hx rfl (pc0 := 205) (pc' := 209) rfl (B at_205) (by decide) (by decide) k)
    have hnr : Value.int (nar .boolean (1 : Int32)) = (.int (1 : Int32)) := by rfl
    obtain ⟨fs, hr, hrun, hended, hend1, hend2, hend3, hsame⟩ := X53.leaveW hS47 (by rw [e53]; exact hk47) (v := some (.int (1 : Int32))) (fun h => by rw [Bd.returns] at h; cases h)
    refine ⟨_, _, hEF ▸ pre57 _ (retN X53 hx (t := .boolean) Bd.returns (by simp) (B at_209) (hnr ▸ hr)), hrun, hended, _, _, rfl, ?_, hend1, hend2, hend3, hsame.mono (by decide) (by decide)⟩
    show QL Z p1 p2 p3 p4 p5 h0 n0 _ T53.heap _
    rw [e53]
    exact ⟨rfl, N53⟩
  have pre58 : Go p e bl T47 (mkF m 191 #[iv p1, iv p2, iv p3, iv p4, iv p5, iv la, iv lb, iv so, iv no, iv w4, iv e4, iv md, rv b27, rv b35, rv b43, .unset] []) s1 EF := fun t k => pre50 t (XS.icmpYes X47.here hx rfl (pc0 := 184) (pc' := 191) rfl (B at_184) rfl (flt hc184).2.2.2 (by decide) (by decide) k)
  have pre59 : Go p e bl T47 (mkF m 196 #[iv p1, iv p2, iv p3, iv p4, iv p5, iv la, iv lb, iv so, iv no, iv w4, iv e4, iv md, rv b27, rv b35, rv b43, iv (0 : Int32)] [(.ref b43)]) s1 EF := fun t k => pre58 t (by
   refine XS.iconst X47.here hx rfl (B at_191) ?_
   refine XS.istore X47.here hx rfl (B at_192) rfl (l' := #[iv p1, iv p2, iv p3, iv p4, iv p5, iv la, iv lb, iv so, iv no, iv w4, iv e4, iv md, rv b27, rv b35, rv b43, iv (0 : Int32)]) rfl ?_
   exact XS.aload X47.here hx rfl (B at_194) rfl rfl k)
  obtain ⟨cq60, kq60, q60a, q60b, q60c⟩ := isOf hZ47 rfl EB47
  obtain ⟨_, _, ⟨T60, L60, k60, n60⟩, -, X60, ⟨Lc60, hQ60, l60, y60, z60⟩, st60⟩ := X47.virtualBack hx (y := mN8) (z := mN8) hown47 (mvT hZ47 (hw _ (mW 60 rfl))) (mvT hZ47 (hw _ (mW 61 rfl))) (notFace_of_selects (args := #[]) (mvT hZ47 (hw _ (mW 63 rfl)))) (mvT hZ47 (hw _ (mW 63 rfl))) (mvT hZ47 (hw _ (mW 62 rfl))) (by decide) (backOf (W := 0) (rmX l Z a0 hw [] b43 b27 b35 (nzD (lonB w4)) (nzD (lonB e4)) (0 : Int32) T47.heap n0 Z49 FS47 FE47 ((((EP31.ext Et35).keep K39).ext Et43).keep K47) ((EP39.ext Et43).keep K47) ((((FO31.ext Et35).keep K39 (ninS ne_b27_b35 nin0)).ext Et43).keep K47 (ninS ne_b27_b43 nin0)) ((FO39.ext Et43).keep K47 (ninS ne_b35_b43 nin0)) (if_neg (fun q => hc184 ((own_loncmp rw4 re4).mp q)))) hZ47 (hw _ (mW 64 rfl)) (hw _ (mW 33 rfl)) (by decide) (by decide)) q60a q60c (g := (mkF m 196 #[iv p1, iv p2, iv p3, iv p4, iv p5, iv la, iv lb, iv so, iv no, iv w4, iv e4, iv md, rv b27, rv b35, rv b43, iv (0 : Int32)] [(.ref b43)])) rfl (hM rfl) (Steps.refl _) (argsL := []) (rest := []) (lenOf pd6 rfl) rfl (Nat.le_of_eq rfl) (B at_196) (fun _ _ => ⟨rfl, rfl, wl rfl, wl rfl⟩)
  dsimp only [Pt.U, Pt.locs, Pt.cells, Pt.slots] at X60 l60 y60 z60 st60 hQ60
  subst l60 y60 z60
  obtain ⟨rfl, N60q, hq60⟩ := hQ60
  have N60 := Fr.app N47 N60q
  have pre61 : Go p e bl T60 (mkF m 199 #[iv p1, iv p2, iv p3, iv p4, iv p5, iv la, iv lb, iv so, iv no, iv w4, iv e4, iv md, rv b27, rv b35, rv b43, iv (0 : Int32)] [(.int (0 : Int32))]) s1 EF := fun t k => pre59 t (st60.trans k)
  have e60 : T60.heap = T47.heap := hq60
  have pre62 : Go p e bl T60 (mkF m 201 #[iv p1, iv p2, iv p3, iv p4, iv p5, iv la, iv lb, iv so, iv no, iv w4, iv e4, iv md, rv b27, rv b35, rv b43, iv (0 : Int32)] [(.int (0 : Int32)), (.int (0 : Int32))]) s1 EF := fun t k => pre61 t (by
   exact XS.iload X60.here hx rfl (B at_199) rfl k)
  have pre63 : Go p e bl T60 (mkF m 204 #[iv p1, iv p2, iv p3, iv p4, iv p5, iv la, iv lb, iv so, iv no, iv w4, iv e4, iv md, rv b27, rv b35, rv b43, iv (0 : Int32)] []) s1 EF := fun t k => pre62 t (XS.icmpNo X60.here hx rfl (B at_201) rfl (teq (by decide : (0 : Int32) = (0 : Int32))).2 k)
  have pre64 : Go p e bl T60 (mkF m 209 #[iv p1, iv p2, iv p3, iv p4, iv p5, iv la, iv lb, iv so, iv no, iv w4, iv e4, iv md, rv b27, rv b35, rv b43, iv (0 : Int32)] [(.int (1 : Int32))]) s1 EF := fun t k => pre63 t (by
   refine XS.iconst X60.here hx rfl (B at_204) ?_
   exact XS.goto X60.here hx rfl (pc0 := 205) (pc' := 209) rfl (B at_205) (by decide) (by decide) k)
  have hnr : Value.int (nar .boolean (1 : Int32)) = (.int (1 : Int32)) := by rfl
  obtain ⟨fs, hr, hrun, hended, hend1, hend2, hend3, hsame⟩ := X60.leaveW hS47 (by rw [e60]; exact hk47) (v := some (.int (1 : Int32))) (fun h => by rw [Bd.returns] at h; cases h)
  refine ⟨_, _, hEF ▸ pre64 _ (retN X60 hx (t := .boolean) Bd.returns (by simp) (B at_209) (hnr ▸ hr)), hrun, hended, _, _, rfl, ?_, hend1, hend2, hend3, hsame.mono (by decide) (by decide)⟩
  show QL Z p1 p2 p3 p4 p5 h0 n0 _ T60.heap _
  rw [e60]
  exact ⟨rfl, N60⟩
set_option maxRecDepth 65536 in
set_option maxHeartbeats 40000000 in
theorem comes_1 {Post : Tables → Env → Array Value → State → Outcome → State → Prop} (hpost : ∀ tb e args s v u, (limb_1_1.after args s (.returned v) u = true ∧ limb_1_2.after args s (.returned v) u = true ∧ True) → ReturnedEndW s (.returned v) u (Jvm.fieldLocs frame_1_writes args s ++ Jvm.arrayLocs frame_1_arrays args s ++ Jvm.staticLocs frame_1_statics s) 24 2176 → Post tb e args s (.returned v) u) :
    ArmFor flags0 classFile x code maxLocals ret World_1 tables_1 room_1 Calls_1 rest_1 Pre_1 Post := by
  intro l hfl _ _ p e ha hc hk s m args below hf hA hF happ hP
  obtain ⟨hcalls, hrest, hpre⟩ := hP
  obtain ⟨-, -, -, hnamed, -, -, -, hat⟩ := (Spec.applies_iff hf).mp happ
  obtain ⟨hg, hn⟩ := and_e (Cond.before_iff.mp (show (Jvm.Cond.and given_1 narrow_1).before args s = true from hpre))
  obtain ⟨hg0, hgr0⟩ := and_e hg
  obtain ⟨hg1, hgr1⟩ := and_e hgr0
  obtain ⟨hg2, hgr2⟩ := and_e hgr1
  obtain ⟨hg3, hgr3⟩ := and_e hgr2
  obtain ⟨hg4, hg5⟩ := and_e hgr3
  obtain ⟨w0, w1, w2, w3, w4, rfl⟩ : ∃ w0 w1 w2 w3 w4 : Value, args = #[w0, w1, w2, w3, w4] := by
    have hs : args.size = 5 := by simpa [Cond.value, given_1] using hg0
    obtain ⟨L⟩ := args
    match L, hs with
    | [w0, w1, w2, w3, w4], _ => exact ⟨w0, w1, w2, w3, w4, rfl⟩
  have hw := fun d (hd : d ∈ tables_1) => atoms_spec (ws := Jvm.Cond.code x code maxLocals ret :: tables_1) hat d (List.mem_cons_of_mem _ hd)
  have hfit : Fit s := fun {y c} hc i hi => by
    obtain ⟨ha, rfl⟩ := Array.getElem?_eq_some_iff.mp hc
    have q := List.all_eq_true.mp ((Array.all_eq_true_iff_forall_mem.mp hF) _ (Array.getElem_mem ha)) i (List.mem_range.mpr hi)
    simpa [Array.getElem?_eq_getElem hi] using q
  obtain ⟨x0, ei0⟩ := is_v hg1
  obtain rfl : w0 = (.int x0) := Option.some.inj ei0
  obtain ⟨x1, ei1⟩ := is_v hg2
  obtain rfl : w1 = (.int x1) := Option.some.inj ei1
  obtain ⟨x2, ei2⟩ := is_v hg3
  obtain rfl : w2 = (.int x2) := Option.some.inj ei2
  obtain ⟨x3, ei3⟩ := is_v hg4
  obtain rfl : w3 = (.int x3) := Option.some.inj ei3
  obtain ⟨x4, ei4⟩ := is_v hg5
  obtain rfl : w4 = (.int x4) := Option.some.inj ei4
  obtain ⟨n, o, h1, h2, h3, _, L, rfl, ⟨rfl, N⟩, hq⟩ := rmL l s _ hw tables_1 x0 x1 x2 x3 x4 s.heap s.heap.size (Nat.le_refl _) p e ha hc hk s m _ below hf ((Spec.applies_iff_loose hf).mp happ).1 ⟨rfl, State.Warmed39.refl s, rfl⟩ trivial
  refine ⟨n, _, h1, h2, h3, hpost _ _ _ _ _ _ ⟨Cond.after_iff.mpr rfl, Cond.after_iff.mpr (eq_i res_at (Term.int_eval (1)) rfl), trivial⟩ ⟨hq.1, hq.2.1, hq.2.2.1, (hq.2.2.2.sift fun y hy => Or.inr (N y hy)).mono (by decide) (by decide)⟩⟩
theorem main_1_1 : Claimed_1_1 := comes_1 fun _ _ _ _ _ _ h hF => ⟨h.1, hF.1, hF.2.1, hF.2.2.1, hF.2.2.2⟩
theorem main_1_2 : Claimed_1_2 := comes_1 fun _ _ _ _ _ _ h hF => ⟨h.2.1, hF.1, hF.2.1, hF.2.2.1, hF.2.2.2⟩
end Jvm.Pilot.@@N@@
namespace Jvm.Pilot.@@N@@
open Jvm Jvm.ClassFile Sem Op Lib Jvm.Free Jvm.Stand Jvm.Pilot.@@N@@.Jvm.D
/-! MADE BY PROGRAM (witnessworld.py) out of the Statement's table words and the real class files: 18 classes; the members and pool entries that the words name. The judged class is class 1, her method 1. -/
namespace start1
open Jvm.ClassFile
def u (s : String) : CpInfo := .utf8 (stringToUtf16 s)
/-- a pool by its gaps: so many unusable entries, then the entry; so many at the end -/
def gap : Nat → List CpInfo → List CpInfo
  | 0, r => r
  | n + 1, r => .unusable :: gap n r
def poolList (es : List (Nat × CpInfo)) (last : Nat) : List CpInfo := es.foldr (fun e r => gap e.1 (e.2 :: r)) (gap last [])
def pool (es : List (Nat × CpInfo)) (last : Nat) : Array CpInfo := ⟨poolList es last⟩
def fileOf (pool : Array CpInfo) (this : Nat) (attrs : Array Attribute := #[]) (ms : Array MethodInfo := #[]) (fl : Nat := 33) (sup : Nat := 0) (ifs : Array Nat := #[]) (fds : Array FieldInfo := #[]) : ClassFile where
  minorVersion := 0
  majorVersion := 65
  constantPool := pool
  accessFlags := fl
  thisClass := this
  superClass := sup
  interfaces := ifs
  fields := fds
  methods := ms
  attributes := attrs
def plain (name : String) (sup : Option ClassId) : Class where
  name := name
  kind := .ordinary
  loader := none
  accessFlags := 33
  super := sup
  interfaces := #[]
  cf := none
  fields := #[]
  methods := #[]
  instanceTypes := #[]
  staticTypes := #[]
  resolved := #[]
  callSites := []
  init := .initialized
  statics := none
  mirror := none

def pool0 : Array CpInfo := pool [(5, u "<init>"), (0, u "()V"), (1, .class_ 10), (1, u "java/lang/Object")] 113

def k0c0 : Code := { maxStack := 0, maxLocals := 1, code := object_method_1_code, exceptionTable := #[], attributes := #[] }
def k0m0 : Method := { name := "<init>", desc := "()V", sig := { parameters := [], returnType := none }, accessFlags := 1, code := some k0c0 }
/-- java/lang/Object -/
def k0 : Class := { plain "java/lang/Object" none with
  accessFlags := 33
  interfaces := #[]
  cf := some (fileOf pool0 8 #[] #[{ accessFlags := 1, nameIndex := 5, descriptorIndex := 6, attributes := #[] }] 33 0 #[] #[])
  fields := #[]
  methods := #[k0m0]
  instanceTypes := #[]
  staticTypes := #[]
  resolved := Array.replicate 124 none
  statics := none }

def pool1 : Array CpInfo := pool [(2, .class_ 4), (1, u "java/lang/Object"), (0, u "<init>"), (0, u "()V"), (0, .integer 2147483647), (0, .methodref 9 10), (0, .class_ 11), (0, .nameAndType 12 13), (0, u "java/lang/Math"), (0, u "min"), (0, u "(II)I"), (0, .methodref 9 15), (0, .nameAndType 16 13), (0, u "max"), (0, .class_ 18), (0, u "com/example/uni_repos/unirepos/geo/Point"), (0, .double 4616189618054758400), (1, .methodref 17 22), (0, .nameAndType 5 23), (0, u "(DD)V"), (0, .class_ 25), (0, u "com/example/uni_repos/unirepos/geo/Box"), (0, .methodref 24 27), (0, .nameAndType 5 28), (0, u "(Lcom/example/uni_repos/unirepos/geo/Point;Lcom/example/uni_repos/unirepos/geo/Point;)V"), (0, .methodref 24 30), (0, .nameAndType 31 32), (0, u "crossesAntimeridian"), (0, u "()Z"), (0, .class_ 34), (0, u "com/example/uni_repos/unirepos/geo/BoxCrossesAntimeridianPinLaw"), (2, u "law"), (0, u "(IIIII)Z")] 3

def k1m0 : Method := { name := "<init>", desc := "()V", sig := { parameters := [], returnType := none }, accessFlags := 1, code := none }
def k1c1 : Code := { maxStack := 8, maxLocals := 16, code := code, exceptionTable := #[], attributes := #[] }
def k1m1 : Method := { name := "law", desc := "(IIIII)Z", sig := { parameters := [.int, .int, .int, .int, .int], returnType := some .boolean }, accessFlags := 9, code := some k1c1 }
/-- com/example/uni_repos/unirepos/geo/BoxCrossesAntimeridianPinLaw -/
def k1 : Class := { plain "com/example/uni_repos/unirepos/geo/BoxCrossesAntimeridianPinLaw" (some 0) with
  accessFlags := 49
  interfaces := #[]
  cf := some (fileOf pool1 33 #[] #[{ accessFlags := 1, nameIndex := 5, descriptorIndex := 6, attributes := #[] }, { accessFlags := 9, nameIndex := 37, descriptorIndex := 38, attributes := #[] }] 49 2 #[] #[])
  fields := #[]
  methods := #[k1m0, k1m1]
  instanceTypes := #[]
  staticTypes := #[]
  resolved := Array.replicate 42 none
  statics := none }

def pool2 : Array CpInfo := pool [(1, .class_ 2), (0, u "java/lang/Math"), (1, .class_ 6), (1, u "java/lang/Object"), (0, u "<init>"), (0, u "()V"), (89, .class_ 100), (1, u "java/lang/Math$RandomNumberGeneratorHolder"), (71, u "negativeZeroFloatBits"), (0, u "J"), (2, u "negativeZeroDoubleBits"), (21, u "max"), (2, u "min"), (43, u "$assertionsDisabled"), (0, u "Z"), (88, u "(II)I"), (2, u "twoToTheDoubleScaleDown"), (0, u "D"), (4, u "twoToTheDoubleScaleUp"), (9, u "E"), (3, u "PI"), (2, u "TAU"), (2, u "DEGREES_TO_RADIANS"), (0, u "RADIANS_TO_DEGREES")] 94

def k2m0 : Method := { name := "<init>", desc := "()V", sig := { parameters := [], returnType := none }, accessFlags := 2, code := none }
def k2c1 : Code := { maxStack := 2, maxLocals := 2, code := jdk_29_method_65_code, exceptionTable := #[], attributes := #[] }
def k2m1 : Method := { name := "max", desc := "(II)I", sig := { parameters := [.int, .int], returnType := some .int }, accessFlags := 9, code := some k2c1 }
def k2c2 : Code := { maxStack := 2, maxLocals := 2, code := jdk_29_method_69_code, exceptionTable := #[], attributes := #[] }
def k2m2 : Method := { name := "min", desc := "(II)I", sig := { parameters := [.int, .int], returnType := some .int }, accessFlags := 9, code := some k2c2 }
/-- java/lang/Math -/
def k2 : Class := { plain "java/lang/Math" (some 0) with
  accessFlags := 49
  interfaces := #[]
  cf := some (fileOf pool2 1 #[.nestMembers #[98]] #[{ accessFlags := 2, nameIndex := 7, descriptorIndex := 8, attributes := #[] }, { accessFlags := 9, nameIndex := 198, descriptorIndex := 335, attributes := #[] }, { accessFlags := 9, nameIndex := 201, descriptorIndex := 335, attributes := #[] }] 49 4 #[] #[{ accessFlags := 25, nameIndex := 354, descriptorIndex := 339, attributes := #[] }, { accessFlags := 25, nameIndex := 358, descriptorIndex := 339, attributes := #[] }, { accessFlags := 25, nameIndex := 361, descriptorIndex := 339, attributes := #[] }, { accessFlags := 26, nameIndex := 364, descriptorIndex := 339, attributes := #[] }, { accessFlags := 26, nameIndex := 365, descriptorIndex := 339, attributes := #[] }, { accessFlags := 26, nameIndex := 172, descriptorIndex := 173, attributes := #[] }, { accessFlags := 26, nameIndex := 176, descriptorIndex := 173, attributes := #[] }, { accessFlags := 8, nameIndex := 344, descriptorIndex := 339, attributes := #[] }, { accessFlags := 8, nameIndex := 338, descriptorIndex := 339, attributes := #[] }, { accessFlags := 4120, nameIndex := 245, descriptorIndex := 246, attributes := #[] }])
  fields := #[{ name := "E", type := .double, accessFlags := 25, slot := 0, constantValue := 0 }, { name := "PI", type := .double, accessFlags := 25, slot := 1, constantValue := 0 }, { name := "TAU", type := .double, accessFlags := 25, slot := 2, constantValue := 0 }, { name := "DEGREES_TO_RADIANS", type := .double, accessFlags := 26, slot := 3, constantValue := 0 }, { name := "RADIANS_TO_DEGREES", type := .double, accessFlags := 26, slot := 4, constantValue := 0 }, { name := "negativeZeroFloatBits", type := .long, accessFlags := 26, slot := 5, constantValue := 0 }, { name := "negativeZeroDoubleBits", type := .long, accessFlags := 26, slot := 6, constantValue := 0 }, { name := "twoToTheDoubleScaleUp", type := .double, accessFlags := 8, slot := 7, constantValue := 0 }, { name := "twoToTheDoubleScaleDown", type := .double, accessFlags := 8, slot := 8, constantValue := 0 }, { name := "$assertionsDisabled", type := .boolean, accessFlags := 4120, slot := 9, constantValue := 0 }]
  methods := #[k2m0, k2m1, k2m2]
  instanceTypes := #[]
  staticTypes := #[.double, .double, .double, .double, .double, .long, .long, .double, .double, .boolean]
  resolved := Array.replicate 460 none
  statics := none }

def pool3 : Array CpInfo := pool [(1, .methodref 2 3), (0, .class_ 4), (0, .nameAndType 5 6), (0, u "java/lang/Object"), (0, u "<init>"), (0, u "()V"), (0, .class_ 8), (0, u "java/lang/Record")] 13

def k3c0 : Code := { maxStack := 1, maxLocals := 1, code := jdk_30_method_1_code, exceptionTable := #[], attributes := #[] }
def k3m0 : Method := { name := "<init>", desc := "()V", sig := { parameters := [], returnType := none }, accessFlags := 4, code := some k3c0 }
/-- java/lang/Record -/
def k3 : Class := { plain "java/lang/Record" (some 0) with
  accessFlags := 1057
  interfaces := #[]
  cf := some (fileOf pool3 7 #[] #[{ accessFlags := 4, nameIndex := 5, descriptorIndex := 6, attributes := #[] }] 1057 2 #[] #[])
  fields := #[]
  methods := #[k3m0]
  instanceTypes := #[]
  staticTypes := #[]
  resolved := Array.replicate 22 none
  statics := none }

def pool4 : Array CpInfo := pool [(1, .methodref 2 3), (0, .class_ 4), (0, .nameAndType 5 6), (0, u "java/lang/Record"), (0, u "<init>"), (0, u "()V"), (0, .double 13859405640767635456), (1, .double 4636033603912859648), (10, .double 13863909240395005952), (1, .double 4640537203540230144), (2, .fieldref 26 27), (0, .class_ 28), (0, .nameAndType 29 30), (0, u "com/example/uni_repos/unirepos/geo/Point"), (0, u "latitude"), (0, u "D"), (0, .fieldref 26 32), (0, .nameAndType 33 30), (0, u "longitude"), (51, u "EARTH_RADIUS_KILOMETERS"), (1, u "(DD)V"), (9, u "()D")] 31

def k4c0 : Code := { maxStack := 4, maxLocals := 5, code := prog_23_method_1_code, exceptionTable := #[], attributes := #[] }
def k4m0 : Method := { name := "<init>", desc := "(DD)V", sig := { parameters := [.double, .double], returnType := none }, accessFlags := 1, code := some k4c0 }
def k4c1 : Code := { maxStack := 2, maxLocals := 1, code := prog_23_method_6_code, exceptionTable := #[], attributes := #[] }
def k4m1 : Method := { name := "latitude", desc := "()D", sig := { parameters := [], returnType := some .double }, accessFlags := 1, code := some k4c1 }
def k4c2 : Code := { maxStack := 2, maxLocals := 1, code := prog_23_method_7_code, exceptionTable := #[], attributes := #[] }
def k4m2 : Method := { name := "longitude", desc := "()D", sig := { parameters := [], returnType := some .double }, accessFlags := 1, code := some k4c2 }
/-- com/example/uni_repos/unirepos/geo/Point -/
def k4 : Class := { plain "com/example/uni_repos/unirepos/geo/Point" (some 3) with
  accessFlags := 49
  interfaces := #[]
  cf := some (fileOf pool4 26 #[] #[{ accessFlags := 1, nameIndex := 5, descriptorIndex := 87, attributes := #[] }, { accessFlags := 1, nameIndex := 29, descriptorIndex := 97, attributes := #[] }, { accessFlags := 1, nameIndex := 33, descriptorIndex := 97, attributes := #[] }] 49 2 #[] #[{ accessFlags := 18, nameIndex := 29, descriptorIndex := 30, attributes := #[] }, { accessFlags := 18, nameIndex := 33, descriptorIndex := 30, attributes := #[] }, { accessFlags := 25, nameIndex := 85, descriptorIndex := 30, attributes := #[] }])
  fields := #[{ name := "latitude", type := .double, accessFlags := 18, slot := 0, constantValue := 0 }, { name := "longitude", type := .double, accessFlags := 18, slot := 1, constantValue := 0 }, { name := "EARTH_RADIUS_KILOMETERS", type := .double, accessFlags := 25, slot := 0, constantValue := 0 }]
  methods := #[k4m0, k4m1, k4m2]
  instanceTypes := #[.double, .double]
  staticTypes := #[.double]
  resolved := Array.replicate 129 none
  statics := none }

def pool5 : Array CpInfo := pool [(1, .methodref 2 3), (0, .class_ 4), (0, .nameAndType 5 6), (0, u "java/lang/Record"), (0, u "<init>"), (0, u "()V"), (0, .string 8), (0, u "southWest"), (0, .methodref 10 11), (0, .class_ 12), (0, .nameAndType 13 14), (0, u "java/util/Objects"), (0, u "requireNonNull"), (0, u "(Ljava/lang/Object;Ljava/lang/String;)Ljava/lang/Object;"), (0, .string 16), (0, u "northEast"), (0, .methodref 18 19), (0, .class_ 20), (0, .nameAndType 21 22), (0, u "com/example/uni_repos/unirepos/geo/Point"), (0, u "latitude"), (0, u "()D"), (9, .fieldref 33 34), (0, .class_ 35), (0, .nameAndType 8 36), (0, u "com/example/uni_repos/unirepos/geo/Box"), (0, u "Lcom/example/uni_repos/unirepos/geo/Point;"), (0, .fieldref 33 38), (0, .nameAndType 16 36), (0, .methodref 18 40), (0, .nameAndType 41 22), (0, u "longitude"), (2, u "crossesAntimeridian"), (0, u "()Z"), (12, u "(Lcom/example/uni_repos/unirepos/geo/Point;Lcom/example/uni_repos/unirepos/geo/Point;)V")] 39

def k5c0 : Code := { maxStack := 6, maxLocals := 3, code := prog_18_method_1_code, exceptionTable := #[], attributes := #[] }
def k5m0 : Method := { name := "<init>", desc := "(Lcom/example/uni_repos/unirepos/geo/Point;Lcom/example/uni_repos/unirepos/geo/Point;)V", sig := { parameters := [(.object "com/example/uni_repos/unirepos/geo/Point"), (.object "com/example/uni_repos/unirepos/geo/Point")], returnType := none }, accessFlags := 1, code := some k5c0 }
def k5c1 : Code := { maxStack := 4, maxLocals := 1, code := prog_18_method_2_code, exceptionTable := #[], attributes := #[] }
def k5m1 : Method := { name := "crossesAntimeridian", desc := "()Z", sig := { parameters := [], returnType := some .boolean }, accessFlags := 1, code := some k5c1 }
/-- com/example/uni_repos/unirepos/geo/Box -/
def k5 : Class := { plain "com/example/uni_repos/unirepos/geo/Box" (some 3) with
  accessFlags := 49
  interfaces := #[]
  cf := some (fileOf pool5 33 #[] #[{ accessFlags := 1, nameIndex := 5, descriptorIndex := 58, attributes := #[] }, { accessFlags := 1, nameIndex := 44, descriptorIndex := 45, attributes := #[] }] 49 2 #[] #[{ accessFlags := 18, nameIndex := 8, descriptorIndex := 36, attributes := #[] }, { accessFlags := 18, nameIndex := 16, descriptorIndex := 36, attributes := #[] }])
  fields := #[{ name := "southWest", type := (.object "com/example/uni_repos/unirepos/geo/Point"), accessFlags := 18, slot := 0, constantValue := 0 }, { name := "northEast", type := (.object "com/example/uni_repos/unirepos/geo/Point"), accessFlags := 18, slot := 1, constantValue := 0 }]
  methods := #[k5m0, k5m1]
  instanceTypes := #[(.object "com/example/uni_repos/unirepos/geo/Point"), (.object "com/example/uni_repos/unirepos/geo/Point")]
  staticTypes := #[]
  resolved := Array.replicate 98 none
  statics := none }

def pool6 : Array CpInfo := pool [(1, .class_ 2), (0, u "java/io/Serializable"), (0, .class_ 4), (0, u "java/lang/Object")] 2

/-- java/io/Serializable -/
def k6 : Class := { plain "java/io/Serializable" (some 0) with
  accessFlags := 1537
  interfaces := #[]
  cf := some (fileOf pool6 1 #[] #[] 1537 3 #[] #[])
  fields := #[]
  methods := #[]
  instanceTypes := #[]
  staticTypes := #[]
  resolved := Array.replicate 7 none
  statics := none }

def pool7 : Array CpInfo := pool [(1, .class_ 2), (0, u "java/lang/Comparable"), (0, .class_ 4), (0, u "java/lang/Object")] 7

/-- java/lang/Comparable -/
def k7 : Class := { plain "java/lang/Comparable" (some 0) with
  accessFlags := 1537
  interfaces := #[]
  cf := some (fileOf pool7 1 #[] #[] 1537 3 #[] #[])
  fields := #[]
  methods := #[]
  instanceTypes := #[]
  staticTypes := #[]
  resolved := Array.replicate 12 none
  statics := none }

def pool8 : Array CpInfo := pool [(2, .class_ 4), (1, u "java/lang/CharSequence"), (42, .class_ 48), (0, u "java/lang/CharSequence$1CodePointIterator"), (10, .class_ 60), (0, u "java/lang/CharSequence$1CharIterator"), (5, .class_ 67), (0, u "java/lang/Object")] 63

/-- java/lang/CharSequence -/
def k8 : Class := { plain "java/lang/CharSequence" (some 0) with
  accessFlags := 1537
  interfaces := #[]
  cf := some (fileOf pool8 2 #[.nestMembers #[47, 59]] #[] 1537 66 #[] #[])
  fields := #[]
  methods := #[]
  instanceTypes := #[]
  staticTypes := #[]
  resolved := Array.replicate 131 none
  statics := none }

def pool9 : Array CpInfo := pool [(1, .class_ 2), (0, u "java/lang/constant/Constable"), (0, .class_ 4), (0, u "java/lang/Object")] 6

/-- java/lang/constant/Constable -/
def k9 : Class := { plain "java/lang/constant/Constable" (some 0) with
  accessFlags := 1537
  interfaces := #[]
  cf := some (fileOf pool9 1 #[] #[] 1537 3 #[] #[])
  fields := #[]
  methods := #[]
  instanceTypes := #[]
  staticTypes := #[]
  resolved := Array.replicate 11 none
  statics := none }

def pool10 : Array CpInfo := pool [(1, .class_ 2), (0, u "java/lang/constant/ConstantDesc"), (0, .class_ 4), (0, u "java/lang/Object")] 32

/-- java/lang/constant/ConstantDesc -/
def k10 : Class := { plain "java/lang/constant/ConstantDesc" (some 0) with
  accessFlags := 1537
  interfaces := #[]
  cf := some (fileOf pool10 1 #[] #[] 1537 3 #[] #[])
  fields := #[]
  methods := #[]
  instanceTypes := #[]
  staticTypes := #[]
  resolved := Array.replicate 37 none
  statics := none }

def pool11 : Array CpInfo := pool [(2, .class_ 4), (1, u "java/lang/Object"), (0, u "<init>"), (0, u "()V"), (3, .class_ 12), (1, u "java/lang/String"), (0, u "value"), (0, u "[B"), (2, u "coder"), (0, u "B"), (2, u "hash"), (0, u "I"), (2, u "hashIsZero"), (0, u "Z"), (13, u "COMPACT_STRINGS"), (534, .class_ 576), (0, u "java/lang/CharSequence"), (22, u "CASE_INSENSITIVE_ORDER"), (0, u "Ljava/util/Comparator;"), (500, u "serialPersistentFields"), (0, u "[Ljava/io/ObjectStreamField;"), (0, .class_ 1104), (0, u "java/lang/String$CaseInsensitiveComparator"), (1, .class_ 1107), (0, u "java/io/Serializable"), (0, .class_ 1109), (0, u "java/lang/Comparable"), (0, .class_ 1111), (0, u "java/lang/constant/Constable"), (0, .class_ 1113), (0, u "java/lang/constant/ConstantDesc"), (2, u "serialVersionUID"), (0, u "J"), (3, u "REPL"), (0, u "C"), (2, u "LATIN1"), (1, u "UTF16")] 323

def k11m0 : Method := { name := "<init>", desc := "()V", sig := { parameters := [], returnType := none }, accessFlags := 1, code := none }
/-- java/lang/String -/
def k11 : Class := { plain "java/lang/String" (some 0) with
  accessFlags := 49
  interfaces := #[6, 7, 8, 9, 10]
  cf := some (fileOf pool11 10 #[.nestMembers #[1103]] #[{ accessFlags := 1, nameIndex := 5, descriptorIndex := 6, attributes := #[] }] 49 2 #[1106, 1108, 575, 1110, 1112] #[{ accessFlags := 18, nameIndex := 13, descriptorIndex := 14, attributes := #[] }, { accessFlags := 18, nameIndex := 17, descriptorIndex := 18, attributes := #[] }, { accessFlags := 2, nameIndex := 21, descriptorIndex := 22, attributes := #[] }, { accessFlags := 2, nameIndex := 25, descriptorIndex := 26, attributes := #[] }, { accessFlags := 26, nameIndex := 1116, descriptorIndex := 1117, attributes := #[] }, { accessFlags := 24, nameIndex := 40, descriptorIndex := 26, attributes := #[] }, { accessFlags := 26, nameIndex := 1101, descriptorIndex := 1102, attributes := #[] }, { accessFlags := 26, nameIndex := 1121, descriptorIndex := 1122, attributes := #[] }, { accessFlags := 25, nameIndex := 599, descriptorIndex := 600, attributes := #[] }, { accessFlags := 24, nameIndex := 1125, descriptorIndex := 18, attributes := #[] }, { accessFlags := 24, nameIndex := 1127, descriptorIndex := 18, attributes := #[] }])
  fields := #[{ name := "value", type := (.array .byte), accessFlags := 18, slot := 0, constantValue := 0 }, { name := "coder", type := .byte, accessFlags := 18, slot := 1, constantValue := 0 }, { name := "hash", type := .int, accessFlags := 2, slot := 2, constantValue := 0 }, { name := "hashIsZero", type := .boolean, accessFlags := 2, slot := 3, constantValue := 0 }, { name := "serialVersionUID", type := .long, accessFlags := 26, slot := 0, constantValue := 0 }, { name := "COMPACT_STRINGS", type := .boolean, accessFlags := 24, slot := 1, constantValue := 0 }, { name := "serialPersistentFields", type := (.array (.object "java/io/ObjectStreamField")), accessFlags := 26, slot := 2, constantValue := 0 }, { name := "REPL", type := .char, accessFlags := 26, slot := 3, constantValue := 0 }, { name := "CASE_INSENSITIVE_ORDER", type := (.object "java/util/Comparator"), accessFlags := 25, slot := 4, constantValue := 0 }, { name := "LATIN1", type := .byte, accessFlags := 24, slot := 5, constantValue := 0 }, { name := "UTF16", type := .byte, accessFlags := 24, slot := 6, constantValue := 0 }]
  methods := #[k11m0]
  instanceTypes := #[(.array .byte), .byte, .int, .boolean]
  staticTypes := #[.long, .boolean, (.array (.object "java/io/ObjectStreamField")), .char, (.object "java/util/Comparator"), .byte, .byte]
  resolved := Array.replicate 1451 none
  statics := none }

def pool12 : Array CpInfo := pool [(2, .class_ 4), (1, u "java/lang/Object"), (0, u "<init>"), (0, u "()V"), (35, .class_ 44), (1, u "java/util/Objects"), (0, u "requireNonNull"), (48, u "(Ljava/lang/Object;Ljava/lang/String;)Ljava/lang/Object;")] 89

def k12m0 : Method := { name := "<init>", desc := "()V", sig := { parameters := [], returnType := none }, accessFlags := 2, code := none }
def k12c1 : Code := { maxStack := 3, maxLocals := 2, code := jdk_31_method_11_code, exceptionTable := #[], attributes := #[] }
def k12m1 : Method := { name := "requireNonNull", desc := "(Ljava/lang/Object;Ljava/lang/String;)Ljava/lang/Object;", sig := { parameters := [(.object "java/lang/Object"), (.object "java/lang/String")], returnType := some (.object "java/lang/Object") }, accessFlags := 9, code := some k12c1 }
/-- java/util/Objects -/
def k12 : Class := { plain "java/util/Objects" (some 0) with
  accessFlags := 49
  interfaces := #[]
  cf := some (fileOf pool12 42 #[] #[{ accessFlags := 2, nameIndex := 5, descriptorIndex := 6, attributes := #[] }, { accessFlags := 9, nameIndex := 45, descriptorIndex := 94, attributes := #[] }] 49 2 #[] #[])
  fields := #[]
  methods := #[k12m0, k12m1]
  instanceTypes := #[]
  staticTypes := #[]
  resolved := Array.replicate 184 none
  statics := none }

def pool13 : Array CpInfo := pool [(1, u "java/lang/Cloneable"), (0, .class_ 1), (0, u "java/lang/Object"), (0, .class_ 3)] 3

/-- java/lang/Cloneable -/
def k13 : Class := { plain "java/lang/Cloneable" (some 0) with
  accessFlags := 1537
  interfaces := #[]
  cf := some (fileOf pool13 2 #[] #[] 1537 4 #[] #[])
  fields := #[]
  methods := #[]
  instanceTypes := #[]
  staticTypes := #[]
  resolved := Array.replicate 8 none
  statics := none }

/-- the primitive byte -/
def k14 : Class := { plain "byte" none with kind := .primitive 'B', accessFlags := 0x411 }
/-- [B -/
def k15 : Class := { plain "[B" (some 0) with kind := .array 14 .byte, interfaces := #[13, 6], accessFlags := 1041 }

/-- the primitive int -/
def k16 : Class := { plain "int" none with kind := .primitive 'I', accessFlags := 0x411 }
/-- [I -/
def k17 : Class := { plain "[I" (some 0) with kind := .array 16 .int, interfaces := #[13, 6], accessFlags := 1041 }

def heap : Heap := #[]
def classes : Array Class := #[k0, k1, k2, k3, k4, k5, k6, k7, k8, k9, k10, k11, k12, k13, k14, k15, k16, k17]
def interned : List (Array UInt16 × Addr) := []
def slotsUsed : Nat := 0
def theMethod : MethodId := ⟨1, 1⟩
def args0 : Array Value := #[.int 5, .int 7, .int 9, .int 11, .int 13]
def aboutOver (below : List Frame) : State where
  vm := { classes := classes, interned := interned.toArray }
  heap := heap
  slotsUsed := slotsUsed
  threads := #[{ frames := .invoking theMethod args0 :: below }]
def below0 : List Frame := [.native { method := ⟨0, 0⟩, args := #[] }]
def about1 : State := aboutOver below0
def p0 : Program := .bare "" "" ""
def e0 : Env := launch0.env 0 0 0
theorem w_frames : about1.frames = Frame.invoking theMethod args0 :: below0 := rfl
set_option maxRecDepth 65536 in
theorem w_args : argsFit about1.vm theMethod args0 = true := by decide +kernel
set_option maxRecDepth 65536 in
theorem w_heap : heapFits about1 = true := by decide +kernel
set_option maxRecDepth 65536 in
theorem w_runnable : about1.curStatus? = some .runnable := by decide +kernel
set_option maxRecDepth 65536 in
theorem w_alone : about1.alone = true := by decide +kernel
set_option maxRecDepth 65536 in
theorem w_named : about1.methodNamed? x = some theMethod := by decide +kernel
set_option maxRecDepth 65536 in
theorem w_hears : about1.hears theMethod below0 = true := by decide +kernel
set_option maxRecDepth 65536 in
theorem w_ripe : about1.ripe theMethod args0 below0 = true := by decide +kernel
theorem w_running : about1.status = .running := rfl
set_option maxRecDepth 65536 in
theorem w_room : about1.hasRoom e0.platform room_1 = true :=
  launch0.hasRoom_least _ room_1 (by decide +kernel) (by decide +kernel) (by decide +kernel) (by decide +kernel) (by decide +kernel) (by decide +kernel)
theorem allAtoms_all (ts : List Jvm.Cond) (a : Array Jvm.Value) (st : Jvm.State) : (allAtoms ts).before a st = ts.all (fun c => c.before a st) := by
  induction ts with
  | nil => rfl
  | cons c t ih =>
    show (Jvm.Cond.and c (allAtoms t)).before a st = _
    rw [Jvm.Cond.before_and, ih, List.all_cons]
def words1 : List Jvm.Cond := Jvm.Cond.code x code maxLocals ret :: tables_1
/-- a 'code' word, met by the world's own term for the bytes: nothing is compared byte by byte -/
theorem code_word {y : MethodName} {bytes : ByteArray} {mx : Nat} {rt : Option FieldType} {a : Array Value} {s : State} {m : MethodId} {meth : Method} {c : Code} (h1 : s.methodNamed? y = some m) (h2 : s.vm.method? m = some meth) (h3 : meth.code = some c) (h4 : c.code = bytes)
    (h5 : (c.maxLocals == mx && c.exceptionTable.isEmpty && decide (c.maxStack ≤ mostOperands) && decide (meth.sig.returnType = rt) && !meth.locks && decide (parseMethodDescriptor y.desc = some meth.sig)) = true) : (Jvm.Cond.code y bytes mx rt).before a s = true := by
  simp only [Bool.and_eq_true, beq_iff_eq, Bool.not_eq_true', decide_eq_true_eq] at h5
  obtain ⟨⟨⟨⟨⟨g1, g2⟩, g3⟩, g4⟩, g5⟩, g6⟩ := h5
  simp [Cond.before, Cond.holds, Cond.value, h1, h2, h3, h4, g1, g2, g3, g4, g5, g6]
def isCode : Jvm.Cond → Bool
  | .code _ _ _ _ => true
  | _ => false
theorem all_split {L : List Jvm.Cond} {P : Jvm.Cond → Bool} (h1 : L.all (fun c => isCode c || P c) = true) (h2 : ∀ c ∈ L.filter isCode, P c = true) : L.all P = true := by
  refine List.all_eq_true.mpr fun c hc => ?_
  have h := List.all_eq_true.mp h1 c hc
  rcases Bool.eq_false_or_eq_true (isCode c) with hi | hi
  · exact h2 c (List.mem_filter.mpr ⟨hc, hi⟩)
  · simpa [hi] using h
set_option maxRecDepth 65536 in
theorem w_c0 : (Jvm.Cond.code x code maxLocals ret).before args0 about1 = true := code_word (m := ⟨1, 1⟩) (meth := k1m1) (c := k1c1) (by decide +kernel) rfl rfl rfl (by decide +kernel)
set_option maxRecDepth 65536 in
theorem w_c1 : (Jvm.Cond.code ({ cls := "java/lang/Math", name := "min", desc := "(II)I" } : Jvm.MethodName) jdk_29_method_69_code (2 : Nat) (Option.some Jvm.ClassFile.FieldType.int)).before args0 about1 = true := code_word (m := ⟨2, 2⟩) (meth := k2m2) (c := k2c2) (by decide +kernel) rfl rfl rfl (by decide +kernel)
set_option maxRecDepth 65536 in
theorem w_c2 : (Jvm.Cond.code ({ cls := "java/lang/Math", name := "max", desc := "(II)I" } : Jvm.MethodName) jdk_29_method_65_code (2 : Nat) (Option.some Jvm.ClassFile.FieldType.int)).before args0 about1 = true := code_word (m := ⟨2, 1⟩) (meth := k2m1) (c := k2c1) (by decide +kernel) rfl rfl rfl (by decide +kernel)
set_option maxRecDepth 65536 in
theorem w_c3 : (Jvm.Cond.code ({ cls := "com/example/uni_repos/unirepos/geo/Point", name := "<init>", desc := "(DD)V" } : Jvm.MethodName) prog_23_method_1_code (5 : Nat) (Option.none : Option Jvm.ClassFile.FieldType)).before args0 about1 = true := code_word (m := ⟨4, 0⟩) (meth := k4m0) (c := k4c0) (by decide +kernel) rfl rfl rfl (by decide +kernel)
set_option maxRecDepth 65536 in
theorem w_c4 : (Jvm.Cond.code ({ cls := "java/lang/Record", name := "<init>", desc := "()V" } : Jvm.MethodName) jdk_30_method_1_code (1 : Nat) (Option.none : Option Jvm.ClassFile.FieldType)).before args0 about1 = true := code_word (m := ⟨3, 0⟩) (meth := k3m0) (c := k3c0) (by decide +kernel) rfl rfl rfl (by decide +kernel)
set_option maxRecDepth 65536 in
theorem w_c5 : (Jvm.Cond.code ({ cls := "java/lang/Object", name := "<init>", desc := "()V" } : Jvm.MethodName) object_method_1_code (1 : Nat) (Option.none : Option Jvm.ClassFile.FieldType)).before args0 about1 = true := code_word (m := ⟨0, 0⟩) (meth := k0m0) (c := k0c0) (by decide +kernel) rfl rfl rfl (by decide +kernel)
set_option maxRecDepth 65536 in
theorem w_c6 : (Jvm.Cond.code ({ cls := "com/example/uni_repos/unirepos/geo/Box", name := "<init>", desc := "(Lcom/example/uni_repos/unirepos/geo/Point;Lcom/example/uni_repos/unirepos/geo/Point;)V" } : Jvm.MethodName) prog_18_method_1_code (3 : Nat) (Option.none : Option Jvm.ClassFile.FieldType)).before args0 about1 = true := code_word (m := ⟨5, 0⟩) (meth := k5m0) (c := k5c0) (by decide +kernel) rfl rfl rfl (by decide +kernel)
set_option maxRecDepth 65536 in
theorem w_c7 : (Jvm.Cond.code ({ cls := "java/util/Objects", name := "requireNonNull", desc := "(Ljava/lang/Object;Ljava/lang/String;)Ljava/lang/Object;" } : Jvm.MethodName) jdk_31_method_11_code (2 : Nat) (Option.some (Jvm.ClassFile.FieldType.object "java/lang/Object"))).before args0 about1 = true := code_word (m := ⟨12, 1⟩) (meth := k12m1) (c := k12c1) (by decide +kernel) rfl rfl rfl (by decide +kernel)
set_option maxRecDepth 65536 in
theorem w_c8 : (Jvm.Cond.code ({ cls := "com/example/uni_repos/unirepos/geo/Point", name := "latitude", desc := "()D" } : Jvm.MethodName) prog_23_method_6_code (1 : Nat) (Option.some Jvm.ClassFile.FieldType.double)).before args0 about1 = true := code_word (m := ⟨4, 1⟩) (meth := k4m1) (c := k4c1) (by decide +kernel) rfl rfl rfl (by decide +kernel)
set_option maxRecDepth 65536 in
theorem w_c9 : (Jvm.Cond.code ({ cls := "com/example/uni_repos/unirepos/geo/Box", name := "crossesAntimeridian", desc := "()Z" } : Jvm.MethodName) prog_18_method_2_code (1 : Nat) (Option.some Jvm.ClassFile.FieldType.boolean)).before args0 about1 = true := code_word (m := ⟨5, 1⟩) (meth := k5m1) (c := k5c1) (by decide +kernel) rfl rfl rfl (by decide +kernel)
set_option maxRecDepth 65536 in
theorem w_c10 : (Jvm.Cond.code ({ cls := "com/example/uni_repos/unirepos/geo/Point", name := "longitude", desc := "()D" } : Jvm.MethodName) prog_23_method_7_code (1 : Nat) (Option.some Jvm.ClassFile.FieldType.double)).before args0 about1 = true := code_word (m := ⟨4, 2⟩) (meth := k4m2) (c := k4c2) (by decide +kernel) rfl rfl rfl (by decide +kernel)
def codes1 : List Jvm.Cond := [Jvm.Cond.code x code maxLocals ret, Jvm.Cond.code ({ cls := "java/lang/Math", name := "min", desc := "(II)I" } : Jvm.MethodName) jdk_29_method_69_code (2 : Nat) (Option.some Jvm.ClassFile.FieldType.int), Jvm.Cond.code ({ cls := "java/lang/Math", name := "max", desc := "(II)I" } : Jvm.MethodName) jdk_29_method_65_code (2 : Nat) (Option.some Jvm.ClassFile.FieldType.int), Jvm.Cond.code ({ cls := "com/example/uni_repos/unirepos/geo/Point", name := "<init>", desc := "(DD)V" } : Jvm.MethodName) prog_23_method_1_code (5 : Nat) (Option.none : Option Jvm.ClassFile.FieldType), Jvm.Cond.code ({ cls := "java/lang/Record", name := "<init>", desc := "()V" } : Jvm.MethodName) jdk_30_method_1_code (1 : Nat) (Option.none : Option Jvm.ClassFile.FieldType), Jvm.Cond.code ({ cls := "java/lang/Object", name := "<init>", desc := "()V" } : Jvm.MethodName) object_method_1_code (1 : Nat) (Option.none : Option Jvm.ClassFile.FieldType), Jvm.Cond.code ({ cls := "com/example/uni_repos/unirepos/geo/Box", name := "<init>", desc := "(Lcom/example/uni_repos/unirepos/geo/Point;Lcom/example/uni_repos/unirepos/geo/Point;)V" } : Jvm.MethodName) prog_18_method_1_code (3 : Nat) (Option.none : Option Jvm.ClassFile.FieldType), Jvm.Cond.code ({ cls := "java/util/Objects", name := "requireNonNull", desc := "(Ljava/lang/Object;Ljava/lang/String;)Ljava/lang/Object;" } : Jvm.MethodName) jdk_31_method_11_code (2 : Nat) (Option.some (Jvm.ClassFile.FieldType.object "java/lang/Object")), Jvm.Cond.code ({ cls := "com/example/uni_repos/unirepos/geo/Point", name := "latitude", desc := "()D" } : Jvm.MethodName) prog_23_method_6_code (1 : Nat) (Option.some Jvm.ClassFile.FieldType.double), Jvm.Cond.code ({ cls := "com/example/uni_repos/unirepos/geo/Box", name := "crossesAntimeridian", desc := "()Z" } : Jvm.MethodName) prog_18_method_2_code (1 : Nat) (Option.some Jvm.ClassFile.FieldType.boolean), Jvm.Cond.code ({ cls := "com/example/uni_repos/unirepos/geo/Point", name := "longitude", desc := "()D" } : Jvm.MethodName) prog_23_method_7_code (1 : Nat) (Option.some Jvm.ClassFile.FieldType.double)]
set_option maxRecDepth 65536 in
theorem codes_eq : words1.filter isCode = codes1 := rfl
theorem w_codes : ∀ c ∈ words1.filter isCode, c.before args0 about1 = true := by
  rw [codes_eq]
  intro c hc
  simp only [codes1, List.mem_cons, List.not_mem_nil, or_false] at hc
  rcases hc with rfl | rfl | rfl | rfl | rfl | rfl | rfl | rfl | rfl | rfl | rfl
  · exact w_c0
  · exact w_c1
  · exact w_c2
  · exact w_c3
  · exact w_c4
  · exact w_c5
  · exact w_c6
  · exact w_c7
  · exact w_c8
  · exact w_c9
  · exact w_c10
set_option maxRecDepth 65536 in
theorem w_t1 : (words1.take 24).all (fun c => isCode c || c.before args0 about1) = true := by decide +kernel
set_option maxRecDepth 65536 in
theorem w_t2 : ((words1.drop 24).take 24).all (fun c => isCode c || c.before args0 about1) = true := by decide +kernel
set_option maxRecDepth 65536 in
theorem w_t3 : ((words1.drop 24).drop 24).all (fun c => isCode c || c.before args0 about1) = true := by decide +kernel
theorem w_tables : (allAtoms (Jvm.Cond.code x code maxLocals ret :: tables_1)).before args0 about1 = true := by
  rw [allAtoms_all]
  show words1.all (fun c => c.before args0 about1) = true
  refine all_split ?_ w_codes
  rw [← List.take_append_drop 24 words1, List.all_append, w_t1, ← List.take_append_drop 24 (words1.drop 24), List.all_append, w_t2, w_t3]
  rfl
set_option maxRecDepth 65536 in
theorem w_case : (Jvm.Cond.and given_1 narrow_1).before args0 about1 = true := by decide +kernel
theorem w_applies : (headSpec (Jvm.Cond.code x code maxLocals ret :: tables_1) room_1).applies x e0.platform about1 = true :=
  (Spec.applies_iff w_frames).mpr ⟨w_running, w_runnable, w_alone, w_named, w_hears, w_ripe, w_room, w_tables⟩
theorem atStart : AtStart classFile x code maxLocals ret World_1 tables_1 room_1 Calls_1 rest_1 Pre_1 launch0 p0 e0 about1 theMethod args0 below0 :=
  ⟨lists_1, trivial, launch0.admits_env _ _ _, launch0.least_env, fairChoices_fair.cas, fairChoices_fair.clock, w_frames, w_args, w_heap, w_applies, trivial, trivial, w_case⟩
end start1
theorem witness_1 : WitnessClaimed_1 := ⟨start1.p0, start1.e0, start1.about1, start1.theMethod, start1.args0, start1.below0, start1.atStart⟩
end Jvm.Pilot.@@N@@
