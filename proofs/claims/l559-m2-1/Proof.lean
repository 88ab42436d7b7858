import JvmDerived
import JvmDerived.Pilot.@@N@@Statement
import JvmDerived.Pilot.@@N@@Code
set_option linter.unusedVariables false
set_option linter.unusedSimpArgs false

namespace Jvm.Pilot.@@N@@
open Jvm Jvm.ClassFile Sem Op Lib Jvm.Free Jvm.Stand Jvm.LawKit Jvm.RoadKit Bundle Jvm.Pilot.@@N@@.Jvm.D
abbrev HW (a0 : Array Value) (Z : State) : Prop := ∀ d ∈ tables_1, d.before a0 Z = true
abbrev MF (l : Launch) (Z : State) (y : MethodName) (b : ByteArray) (ml : Nat) (rt : Option FieldType) (ws : List Jvm.Cond) (rm : Room) (A : Array Value) (h0 : Heap) (Q : Option Value → Heap → List Loc → Prop) : Prop := MetFree l y (head1 (Jvm.Cond.code y b ml rt :: ws) rm) (fun a U => a = A ∧ Z.Warmed39 U.vm ∧ U.heap = h0) (fun _ _ _ _ _ => True) (fun _ U o U' => ∃ v L, o = .returned v ∧ Q v U'.heap L ∧ FrameEnd U o U' L rm.cells rm.slots)
/-- the end of a walk -/
theorem fin1 {p : Program} {l : Launch} {e : Env} {R : Room} {s : State} {m : MethodId} {args : Array Value} {bl : List Frame} {meth : Method} {c : Code} {T : State} {locs : List Loc} {cells slots : Nat} (X : Stand p l e R s m args bl meth c T locs cells slots) {v : Option Value} (hv : meth.sig.returnType = none → v = none) (hlk : meth.locks = false) {g : JFrame} {s1 : State} {C D : Nat} {Q : Option Value → Heap → List Loc → Prop} (hc : cells ≤ C) (hd : slots ≤ D) (hQ : Q v T.heap locs)
    (hs : ∀ fs, (∀ (f : JFrame) (acts : List Action), f.method = m → f.locked = none → f.entered = [] → (doReturn e (T.setTop f) acts v).1 = T.setFrames fs) → Steps p.tables e bl (s1.setTop g) (T.setFrames fs)) : ∃ s₂ o, Steps p.tables e bl (s1.setTop g) s₂ ∧ s₂.status = .running ∧ Ended s₂ bl o ∧ ∃ v L, o = .returned v ∧ Q v s₂.heap L ∧ FrameEnd s o s₂ L C D := by
  obtain ⟨fs, hr, hrun, hended, hW, hsame⟩ := X.leave hv hlk
  exact ⟨_, _, hs fs hr, hrun, hended, _, _, rfl, hQ, ⟨_, rfl⟩, hW, hsame.mono hc hd⟩
theorem wl {a b : Nat} (h : Nat.ble a b = true) : a ≤ b := Nat.le_of_ble_eq_true h
theorem mW (i : Nat) {d : Jvm.Cond} (h : tables_1[i]? = some d) : d ∈ tables_1 := List.mem_of_getElem? h
/-- from the frame g' at S' the run comes to the frame g at S -/
abbrev Go (p : Program) (e : Env) (below : List Frame) (S : State) (g : JFrame) (S' : State) (g' : JFrame) : Prop := ∀ t, Steps p.tables e below (S.setTop g) t → Steps p.tables e below (S'.setTop g') t

abbrev mN0 : MethodName := ⟨"java/lang/StringLatin1", "equals", "([B[B)Z"⟩
abbrev mN1 : MethodName := ⟨"java/lang/String", "equals", "(Ljava/lang/Object;)Z"⟩
abbrev mN2 : MethodName := ⟨"java/lang/StringUTF16", "compress", "([CI[BII)I"⟩
abbrev mN3 : MethodName := ⟨"java/lang/StringUTF16", "compress", "([CII)[B"⟩
abbrev mN4 : MethodName := ⟨"java/lang/StringUTF16", "coderFromArrayLen", "([BI)B"⟩
abbrev mN5 : MethodName := ⟨"java/lang/String", "<init>", "([CIILjava/lang/Void;)V"⟩
abbrev mN6 : MethodName := ⟨"java/lang/String", "<init>", "([C)V"⟩
abbrev mN7 : MethodName := ⟨"java/util/Objects", "requireNonNull", "(Ljava/lang/Object;Ljava/lang/String;)Ljava/lang/Object;"⟩
abbrev mN8 : MethodName := ⟨"java/util/Objects", "requireNonNull", "(Ljava/lang/Object;)Ljava/lang/Object;"⟩
abbrev mN9 : MethodName := ⟨"java/util/Optional", "<init>", "(Ljava/lang/Object;)V"⟩
abbrev mN10 : MethodName := ⟨"java/util/Optional", "of", "(Ljava/lang/Object;)Ljava/util/Optional;"⟩
abbrev mN11 : MethodName := ⟨"java/util/Optional", "isPresent", "()Z"⟩
abbrev mN12 : MethodName := ⟨"java/util/Optional", "get", "()Ljava/lang/Object;"⟩
abbrev mN13 : MethodName := ⟨"java/util/Optional", "empty", "()Ljava/util/Optional;"⟩
abbrev mN14 : MethodName := ⟨"com/example/picketline/picketline/protocol/Protocol", "values", "()[Lcom/example/picketline/picketline/protocol/Protocol;"⟩
abbrev mN15 : MethodName := ⟨"com/example/picketline/picketline/protocol/Protocol", "named", "(Ljava/lang/String;)Ljava/util/Optional;"⟩
abbrev mN16 : MethodName := ⟨"com/example/picketline/picketline/protocol/ProtocolNamedPinLaw", "prefix", "([CI)Ljava/lang/String;"⟩
theorem mg {α : Type} {l : List α} {a : α} (i : Nat) (h : l[i]? = some a) : a ∈ l := List.mem_of_getElem? h
theorem hp {Z T : State} {h : Heap} {a : Addr} {c : Cell} {ty : FieldType} (e : T.heap = h) (A : Arr Z h a c ty) : T.heap[a]? = some c := by rw [e]; exact A.1
theorem own_fld {args : Array Value} {s : State} {t : Term} {x : Addr} {C n d : String} {k : Int32} (ht : t.eval args s none [] s = some (.ref x)) (h : (Jvm.Cond.eq (.field t C n d) (.int k)).value args s none s [] = some true) : Fld s s.heap x C n d (.int k) := by
  obtain ⟨y, z, h1, h2, h3, -⟩ := cmp_v (Or.inl h)
  have h2' : z = .int k := by simpa [Term.eval] using h2.symm
  subst h2'
  obtain ⟨u, rfl⟩ : ∃ u, y = .int u := by cases y <;> simp [Kin, Value.isRef] at h3 ⊢
  have h4 : u = k := by simpa [Jvm.Cond.value, h1, h2] using h
  subst h4
  exact Fld.start ((fld_at ht).symm.trans h1)

theorem own_fitc {c : Int32} (h : nar .char c = c) : fits .char (.int c) = true := by have q := fits_nar_char c; rwa [h] at q
theorem own_i2b2 (x : Int32) : nar .byte x.toInt8.toInt32 = x.toInt8.toInt32 := by
  show x.toInt8.toInt32.toInt8.toInt32 = x.toInt8.toInt32
  rw [Int8.toInt8_toInt32]
theorem own_nc {c : Int32} (h1 : 0 ≤ c.toInt) (h2 : c.toInt < 65536) : nar .char c = c := by
  show c.toUInt32.toUInt16.toUInt32.toInt32 = c
  have q := c_i2c c
  rw [← Int32.toInt_inj]; omega
/-- the chars that a String spells: one byte each, or two -/
def LatV (cs : List Int32) : List Value := cs.map fun c => .int c.toInt8.toInt32
def lo8 (c : Int32) : Int32 := (c >>> ((0 : Int32) &&& 31)).toInt8.toInt32
def hi8 (c : Int32) : Int32 := (c >>> ((8 : Int32) &&& 31)).toInt8.toInt32
def WidV : List Int32 → List Value
  | [] => []
  | c :: cs => .int (lo8 c) :: .int (hi8 c) :: WidV cs
def Str (Z : State) (h : Heap) (a : Addr) (cs : List Int32) : Prop := ∃ (cd : Int32) (b : Addr) (k : ClassId) (z : Int32) (vs : List Value), Exa Z h a "java/lang/String" ∧ Fld Z h a "java/lang/String" "coder" "B" (.int cd) ∧ Fld Z h a "java/lang/String" "value" "[B" (.ref b) ∧ Arv Z h b k .byte z vs (.int 0) ∧ cs.length ≤ 4000 ∧
  ((cd = 0 ∧ z.toInt = cs.length ∧ vs = LatV cs ∧ ∀ c ∈ cs, 0 ≤ c.toInt ∧ c.toInt < 256) ∨ (cd = 1 ∧ z.toInt = 2 * cs.length ∧ vs = WidV cs ∧ ∀ c ∈ cs, 0 ≤ c.toInt ∧ c.toInt < 65536))
theorem Str.exa {Z : State} {h : Heap} {a : Addr} {cs : List Int32} (S : Str Z h a cs) : Exa Z h a "java/lang/String" := by obtain ⟨_, _, _, _, _, E, -⟩ := S; exact E
theorem own_lat {c : Int32} (h1 : 0 ≤ c.toInt) (h2 : c.toInt < 256) : c.toInt8.toInt32 &&& 255 = c := by
  have q := c_mask c.toInt8.toInt32 255 8 (by decide) (by decide)
  have q2 := c_i2b c
  rw [← Int32.toInt_inj, q]
  have e : ((2 ^ 8 : Nat) : Int) = 256 := by decide
  rw [e]; omega
theorem own_lat_at {cs : List Int32} {i : Nat} {c : Int32} (h : cs[i]? = some c) : (LatV cs).getD i (.int 0) = .int c.toInt8.toInt32 := by
  simp [LatV, List.getD, h]
theorem own_wid_at : ∀ {cs : List Int32} {i : Nat} {c : Int32}, cs[i]? = some c → (WidV cs).getD (2 * i) (.int 0) = .int (lo8 c) ∧ (WidV cs).getD (2 * i + 1) (.int 0) = .int (hi8 c)
  | [], i, c, h => by simp at h
  | x :: xs, 0, c, h => by simp at h; subst h; exact ⟨rfl, rfl⟩
  | x :: xs, i + 1, c, h => by
    have q := own_wid_at (cs := xs) (i := i) (c := c) (by simpa using h)
    have e1 : 2 * (i + 1) = 2 * i + 1 + 1 := by omega
    have e2 : 2 * (i + 1) + 1 = 2 * i + 1 + 1 + 1 := by omega
    rw [e1]
    exact q
theorem own_get {c : Int32} (h1 : 0 ≤ c.toInt) (h2 : c.toInt < 65536) : ((((lo8 c &&& 255) <<< ((0 : Int32) &&& 31)) ||| ((hi8 c &&& 255) <<< ((8 : Int32) &&& 31))).toUInt32.toUInt16.toUInt32.toInt32) = c := by
  have a0 := c_ishr c 0 0 (by decide)
  have a8 := c_ishr c 8 8 (by decide)
  have b0 := c_mask (lo8 c) 255 8 (by decide) (by decide)
  have b8 := c_mask (hi8 c) 255 8 (by decide) (by decide)
  have d0 := c_i2b (c >>> ((0 : Int32) &&& 31))
  have d8 := c_i2b (c >>> ((8 : Int32) &&& 31))
  have e0 := c_ishl (lo8 c &&& 255) 0 0 (by decide)
  have e8 := c_ishl (hi8 c &&& 255) 8 8 (by decide)
  have w0 := rng32 ((lo8 c &&& 255) <<< ((0 : Int32) &&& 31))
  have w8 := rng32 ((hi8 c &&& 255) <<< ((8 : Int32) &&& 31))
  have p0 : ((2 ^ 0 : Nat) : Int) = 1 := by decide
  have p8 : ((2 ^ 8 : Nat) : Int) = 256 := by decide
  rw [p0] at a0 e0
  rw [p8] at a8 b0 b8 e8
  have f : (lo8 c) = (c >>> ((0 : Int32) &&& 31)).toInt8.toInt32 := rfl
  have g : (hi8 c) = (c >>> ((8 : Int32) &&& 31)).toInt8.toInt32 := rfl
  rw [← f] at d0
  rw [← g] at d8
  have o := c_or' ((lo8 c &&& 255) <<< ((0 : Int32) &&& 31)) ((hi8 c &&& 255) <<< ((8 : Int32) &&& 31)) 8 (by decide) 256 (by decide) (by omega) (by omega) (by omega)
  have w := rng32 (((lo8 c &&& 255) <<< ((0 : Int32) &&& 31)) ||| ((hi8 c &&& 255) <<< ((8 : Int32) &&& 31)))
  generalize (((lo8 c &&& 255) <<< ((0 : Int32) &&& 31)) ||| ((hi8 c &&& 255) <<< ((8 : Int32) &&& 31))) = x at o w ⊢
  have q := c_i2c x
  rw [← Int32.toInt_inj]; omega

theorem mJ (i : Nat) {d : Jvm.Cond} (h : jdkStatics_1[i]? = some d) : d ∈ jdkStatics_1 := List.mem_of_getElem? h
def Jd (Z : State) (cz : Int32) (fv : Value) : Prop := Sta Z Z.heap "java/lang/String" "COMPACT_STRINGS" "Z" (.int cz) ∧ cz ≠ 0 ∧ fv = .null ∧ True
def QP (r : Int32) (h0 : Heap) (n0 : Nat) (v : Option Value) (h : Heap) (L : List Loc) : Prop := v = some (.int r) ∧ Fr n0 L ∧ h = h0
def BV (bs : List Int32) : List Value := bs.map .int
def StL (Z : State) (h : Heap) (a b : Addr) (k : ClassId) (n : Int32) (bs : List Int32) (hs hz : Int32) : Prop := Exa Z h a "java/lang/String" ∧ Fld Z h a "java/lang/String" "coder" "B" (.int 0) ∧ Fld Z h a "java/lang/String" "value" "[B" (.ref b) ∧ Arv Z h b k .byte n (BV bs) (.int 0) ∧ True ∧ a ≠ b
theorem StL.ext {Z : State} {h h' : Heap} {a b : Addr} {k : ClassId} {n : Int32} {bs : List Int32} {hs hz : Int32} (S : StL Z h a b k n bs hs hz) (E : Ext h h') : StL Z h' a b k n bs hs hz := ⟨S.1.ext E, S.2.1.ext E, S.2.2.1.ext E, S.2.2.2.1.ext E, S.2.2.2.2.1, S.2.2.2.2.2⟩
theorem StL.keep {Z : State} {h h' : Heap} {a b : Addr} {k : ClassId} {n : Int32} {bs : List Int32} {hs hz : Int32} {ws : List Addr} (S : StL Z h a b k n bs hs hz) (K : Keep h h' ws) (ha : a ∉ ws) (hb : b ∉ ws) : StL Z h' a b k n bs hs hz := ⟨S.1.keep K, S.2.1.keep K ha, S.2.2.1.keep K ha, S.2.2.2.1.keep K hb, S.2.2.2.2.1, S.2.2.2.2.2⟩
theorem own_sa : ∀ w ∈ Bundle.stringAtoms, w ∈ tables_1 := by decide +kernel
theorem own_wS {Z : State} {a0 : Array Value} (hw : ∀ d ∈ tables_1, d.before a0 Z = true) : ∀ a ∈ Bundle.stringAtoms, a.before a0 Z = true := fun a ha => hw a (own_sa a ha)
theorem own_EW {Z : State} {a0 : Array Value} (hw : ∀ d ∈ tables_1, d.before a0 Z = true) : EW Z a0 [("com/example/picketline/picketline/protocol/Protocol", 37), ("com/example/picketline/picketline/protocol/ProtocolNamedPinLaw", 20), ("com/example/picketline/picketline/protocol/ProtocolNamedPinLaw", 42), ("java/lang/String", 7)] := (EW.cons (hw _ (mW 38 rfl)) (by decide +kernel) (EW.cons (hw _ (mW 88 rfl)) (by decide +kernel) (EW.cons (hw _ (mW 108 rfl)) (by decide +kernel) (EW.cons (hw _ (mW 109 rfl)) (by decide +kernel) EW.nil))))
def eqB : List Int32 → List Int32 → Int32
  | [], [] => 1
  | x :: xs, y :: ys => if x = y then eqB xs ys else 0
  | _, _ => 0
theorem own_eqB : ∀ (xs ys : List Int32), eqB xs ys = 0 ∨ eqB xs ys = 1
  | [], [] => Or.inr rfl
  | [], _ :: _ => Or.inl rfl
  | _ :: _, [] => Or.inl rfl
  | x :: xs, y :: ys => by
    unfold eqB; split
    · exact own_eqB xs ys
    · exact Or.inl rfl
abbrev C9 : List Int32 := [111, 98, 108, 105, 118, 105, 111, 117, 115]
abbrev C7 : List Int32 := [116, 119, 111, 45, 98, 105, 116]
theorem own_ne : ∀ (xs ys : List Int32), xs.length ≠ ys.length → eqB xs ys = 0
  | [], [], h => absurd rfl h
  | [], _ :: _, _ => rfl
  | _ :: _, [], _ => rfl
  | x :: xs, y :: ys, h => by
    unfold eqB; split
    · exact own_ne xs ys (fun e => h (by simp [e]))
    · rfl
theorem own_refl : ∀ (xs : List Int32), eqB xs xs = 1
  | [] => rfl
  | x :: xs => by unfold eqB; rw [if_pos rfl]; exact own_refl xs
theorem own_sym : ∀ (xs ys : List Int32), eqB xs ys = eqB ys xs
  | [], [] => rfl
  | [], _ :: _ => rfl
  | _ :: _, [] => rfl
  | x :: xs, y :: ys => by
    unfold eqB; rw [own_sym xs ys]
    by_cases h : x = y
    · rw [if_pos h, if_pos h.symm]
    · rw [if_neg h, if_neg (fun q => h q.symm)]
theorem own_clamp {n : Int32} {k : Nat} (h : n.toInt = k) : n.toNatClampNeg = k := by simp only [Int32.toNatClampNeg, h]; omega
theorem own_same {Z : State} {h : Heap} {a b1 b2 : Addr} {k1 k2 : ClassId} {n1 n2 : Int32} {bs1 bs2 : List Int32} {p1 q1 p2 q2 : Int32} (S1 : StL Z h a b1 k1 n1 bs1 p1 q1) (S2 : StL Z h a b2 k2 n2 bs2 p2 q2) (g1 : n1.toInt = bs1.length) (g2 : n2.toInt = bs2.length) : bs1 = bs2 := by
  by_cases hb : b1 = b2
  · subst hb
    obtain ⟨c1, A1, -, z1, -, H1, -⟩ := S1.2.2.2.1
    obtain ⟨c2, A2, -, z2, -, H2, -⟩ := S2.2.2.2.1
    cases A1.1.symm.trans A2.1
    rw [own_clamp g1] at z1
    rw [own_clamp g2] at z2
    have hl : bs1.length = bs2.length := z1.symm.trans z2
    refine List.ext_getElem hl fun i h1 h2 => ?_
    have q := (H1 i (by omega)).symm.trans (H2 i (by omega))
    simpa [BV, List.getD, h1, h2] using q
  · exact absurd rfl (Fld.ne S1.2.2.1 S2.2.2.1 (fun e => hb (by cases e; rfl)))
def okb (c : Int32) : Prop := 0 ≤ c.toInt ∧ c.toInt < 256
instance (c : Int32) : Decidable (okb c) := by unfold okb; infer_instance
theorem okb.nc {c : Int32} (h : okb c) : nar .char c = c := own_nc h.1 (Int.lt_trans h.2 (by decide))
theorem okb.le {c : Int32} (h : okb c) : ¬ (255 : Int32) < c := by
  have e : (255 : Int32).toInt = 255 := by decide
  have := h.2
  rw [Int32.lt_iff_toInt_lt, e]; omega
theorem own_b255 (x : Int32) : okb (x &&& 255).toUInt32.toUInt16.toUInt32.toInt32 := by
  have h1 := c_mask x 255 8 (by decide) (by decide)
  have e : ((2 ^ 8 : Nat) : Int) = 256 := by decide
  rw [i2c_mask]; unfold okb; omega
theorem own_i2c2 (x : Int32) : nar .char x.toUInt32.toUInt16.toUInt32.toInt32 = x.toUInt32.toUInt16.toUInt32.toInt32 := by
  have q := c_i2c x
  exact own_nc q.2.1 q.2.2
theorem own_r10 (p : Int32) : ¬ ((p &&& 2147483647) % 10) < 0 ∧ ((p &&& 2147483647) % 10) < 10 := by
  have h1 := c_mask p 2147483647 31 (by decide) (by decide)
  have h2 := (c_irem (p &&& 2147483647) 10 10 (by decide)).1 (by omega)
  have e0 : (0 : Int32).toInt = 0 := by decide
  have e1 : (10 : Int32).toInt = 10 := by decide
  simp only [Int32.lt_iff_toInt_lt, e0, e1]; omega
theorem own_n10 (p : Int32) {vs : List Value} (h : vs.length = 10) : ((p &&& 2147483647) % 10).toNatClampNeg < vs.length := by
  have q := own_r10 p
  have e0 : (0 : Int32).toInt = 0 := by decide
  have e1 : (10 : Int32).toInt = 10 := by decide
  simp only [Int32.lt_iff_toInt_lt, e0, e1] at q
  rw [h]; simp only [Int32.toNatClampNeg]; omega
theorem own_bvset (cs : List Int32) (j : Nat) (c : Int32) : (BV cs).set j (.int c) = BV (cs.set j c) := by simp [BV, List.map_set]
theorem own_l7 {bs : List Int32} (h : bs.length = 7) : ∃ u0 u1 u2 u3 u4 u5 u6, bs = [u0, u1, u2, u3, u4, u5, u6] := by
  match bs, h with
  | [u0, u1, u2, u3, u4, u5, u6], _ => exact ⟨u0, u1, u2, u3, u4, u5, u6, rfl⟩
theorem own_l9 {bs : List Int32} (h : bs.length = 9) : ∃ u0 u1 u2 u3 u4 u5 u6 u7 u8, bs = [u0, u1, u2, u3, u4, u5, u6, u7, u8] := by
  match bs, h with
  | [u0, u1, u2, u3, u4, u5, u6, u7, u8], _ => exact ⟨u0, u1, u2, u3, u4, u5, u6, u7, u8, rfl⟩
theorem own_l10 {bs : List Int32} (h : bs.length = 10) : ∃ u0 u1 u2 u3 u4 u5 u6 u7 u8 u9, bs = [u0, u1, u2, u3, u4, u5, u6, u7, u8, u9] := by
  match bs, h with
  | [u0, u1, u2, u3, u4, u5, u6, u7, u8, u9], _ => exact ⟨u0, u1, u2, u3, u4, u5, u6, u7, u8, u9, rfl⟩
abbrev rKJEn : Room := { frames := 0, cells := 0, slots := 0, locals := 0 }
theorem d0_0 : decode jdk_43_method_13_code 0 = .ok (.aload_n 0, 1) := by decide +kernel
theorem d0_1 : decode jdk_43_method_13_code 1 = .ok (.arraylength, 1) := by decide +kernel
theorem d0_2 : decode jdk_43_method_13_code 2 = .ok (.aload_n 1, 1) := by decide +kernel
theorem d0_3 : decode jdk_43_method_13_code 3 = .ok (.arraylength, 1) := by decide +kernel
theorem d0_4 : decode jdk_43_method_13_code 4 = .ok (.if_icmp .ne 30, 3) := by decide +kernel
theorem d0_34 : decode jdk_43_method_13_code 34 = .ok (.iconst 0, 1) := by decide +kernel
theorem d0_35 : decode jdk_43_method_13_code 35 = .ok (.ireturn, 1) := by decide +kernel
theorem pn0 : plainName "java/lang/StringLatin1" = true := by first | (simp [plainName, overriddenIn]; done) | decide +kernel
theorem efJEn (m : MethodId) (a1 : Addr) (a2 : Addr) : entryFrame m #[(.ref a1), (.ref a2)] 3 = mkF m 0 #[rv a1, rv a2, .unset] [] := by first | (simp [entryFrame, mkF, argsToLocals, Value.category]; done) | rfl
def QJEn (Z : State) (a1 : Addr) (a2 : Addr) (cz : Int32) (fv : Value) (k1 : ClassId) (k2 : ClassId) (n1 : Int32) (n2 : Int32) (vs1 : List Value) (vs2 : List Value) (h0 : Heap) (n0 : Nat) (v : Option Value) (h : Heap) (L : List Loc) : Prop := v = some (.int 0) ∧ Fr n0 L ∧ h = h0
set_option maxRecDepth 65536 in
set_option maxHeartbeats 40000000 in
theorem rmJEn (l : Launch) (Z : State) (a0 : Array Value) (hw : HW a0 Z) (ws : List Jvm.Cond) (a1 : Addr) (a2 : Addr) (cz : Int32) (fv : Value) (k1 : ClassId) (k2 : ClassId) (n1 : Int32) (n2 : Int32) (vs1 : List Value) (vs2 : List Value) (h0 : Heap) (n0 : Nat) (Z0 : n0 ≤ h0.size) (O0 : Old Z n0 h0) (J0 : Jd Z cz fv) (V1 : Arv Z h0 a1 k1 .byte n1 vs1 (.int 0)) (V2 : Arv Z h0 a2 k2 .byte n2 vs2 (.int 0)) (hne : ¬ n1 = n2) :
    MF l Z mN0 jdk_43_method_13_code 3 (some .boolean) ws rKJEn #[(.ref a1), (.ref a2)] h0 (QJEn Z a1 a2 cz fv k1 k2 n1 n2 vs1 vs2 h0 n0) := by
  refine MetFree.of_bodySF (plainFor_of_name pn0) hisR ?_
  intro p e s m args bl meth c s1 Bd hml0 hP hK
  obtain ⟨rfl, hZ, hh⟩ := hP
  have hx := Bd.exec
  have hby := Bd.bytes
  have B := @hb c _ hby
  have hown : s.vm.findClass "java/lang/StringLatin1" = some m.cls := findClass_of_methodNamed Bd.named
  have hlk : meth.locks = false := BodyLoose.notSynchronized Bd
  have hrt : ∀ {v : Option Value}, meth.sig.returnType = none → v = none := fun h => by rw [Bd.returns] at h; cases h
  have X0 : Stand p l e rKJEn s m #[(.ref a1), (.ref a2)] bl meth c s1 [] 0 0 := Stand.of_body Bd
  have e0 : s1.heap = h0 := by rw [← hh, Bd.state]; rfl
  have N0 := Fr.nil n0
  obtain ⟨EF, hEF⟩ : ∃ f, f = entryFrame m #[(.ref a1), (.ref a2)] 3 := ⟨_, rfl⟩
  have pre0 : Go p e bl s1 (mkF m 0 #[rv a1, rv a2, .unset] []) s1 EF := fun t k => by rw [hEF]; exact castTop (efJEn m a1 a2) k
  have pre1 : Go p e bl s1 (mkF m 1 #[rv a1, rv a2, .unset] [(.ref a1)]) s1 EF := fun t k => pre0 t (by
   exact XS.aloadN X0.here hx rfl (B d0_0) rfl rfl k)
  obtain ⟨cl2, Ar2, q2, Sz2, M2, H2, G2⟩ := id V1
  have pre3 : Go p e bl s1 (mkF m 3 #[rv a1, rv a2, .unset] [(.ref a2), (.int n1)]) s1 EF := fun t k => pre1 t (by
   refine X0.arraylength hx (hp e0 Ar2) (State.isArrayOf_alike hZ.alike Ar2.2.1) (g := (mkF m 1 #[rv a1, rv a2, .unset] [(.ref a1)])) rfl rfl (B d0_1) _ ?_
   rw [len_of Sz2 M2]
   exact XS.aloadN X0.here hx rfl (B d0_2) rfl rfl k)
  obtain ⟨cl4, Ar4, q4, Sz4, M4, H4, G4⟩ := id V2
  have pre5 : Go p e bl s1 (mkF m 4 #[rv a1, rv a2, .unset] [(.int n2), (.int n1)]) s1 EF := fun t k => pre3 t (by
   refine X0.arraylength hx (hp e0 Ar4) (State.isArrayOf_alike hZ.alike Ar4.2.1) (g := (mkF m 3 #[rv a1, rv a2, .unset] [(.ref a2), (.int n1)])) rfl rfl (B d0_3) _ ?_
   rw [len_of Sz4 M4]
   exact k)
  have pre6 : Go p e bl s1 (mkF m 34 #[rv a1, rv a2, .unset] []) s1 EF := fun t k => pre5 t (XS.icmpYes X0.here hx rfl (pc0 := 4) (pc' := 34) rfl (B d0_4) rfl (feq hne).2 (by decide) (by decide) k)
  have pre7 : Go p e bl s1 (mkF m 35 #[rv a1, rv a2, .unset] [(.int 0)]) s1 EF := fun t k => pre6 t (by
   exact XS.iconst X0.here hx rfl (B d0_34) k)
  have hnr : Value.int (nar .boolean (0 : Int32)) = (.int 0) := by rfl
  exact fin1 X0 (v := some (.int 0)) hrt hlk (wl rfl) (wl rfl) (by rw [e0]; exact ⟨rfl, N0, rfl⟩) (fun fs hr => hEF ▸ pre7 _ (retN X0 hx (t := .boolean) Bd.returns (by simp) (B d0_35) (hnr ▸ hr)))
abbrev rKJE7 : Room := { frames := 0, cells := 0, slots := 0, locals := 0 }
theorem d0_7 : decode jdk_43_method_13_code 7 = .ok (.iconst 0, 1) := by decide +kernel
theorem d0_8 : decode jdk_43_method_13_code 8 = .ok (.istore_n 2, 1) := by decide +kernel
theorem d0_9 : decode jdk_43_method_13_code 9 = .ok (.iload_n 2, 1) := by decide +kernel
theorem d0_10 : decode jdk_43_method_13_code 10 = .ok (.aload_n 0, 1) := by decide +kernel
theorem d0_11 : decode jdk_43_method_13_code 11 = .ok (.arraylength, 1) := by decide +kernel
theorem d0_12 : decode jdk_43_method_13_code 12 = .ok (.if_icmp .ge 20, 3) := by decide +kernel
theorem d0_15 : decode jdk_43_method_13_code 15 = .ok (.aload_n 0, 1) := by decide +kernel
theorem d0_16 : decode jdk_43_method_13_code 16 = .ok (.iload_n 2, 1) := by decide +kernel
theorem d0_17 : decode jdk_43_method_13_code 17 = .ok (.baload, 1) := by decide +kernel
theorem d0_18 : decode jdk_43_method_13_code 18 = .ok (.aload_n 1, 1) := by decide +kernel
theorem d0_19 : decode jdk_43_method_13_code 19 = .ok (.iload_n 2, 1) := by decide +kernel
theorem d0_20 : decode jdk_43_method_13_code 20 = .ok (.baload, 1) := by decide +kernel
theorem d0_21 : decode jdk_43_method_13_code 21 = .ok (.if_icmp .eq 5, 3) := by decide +kernel
theorem d0_24 : decode jdk_43_method_13_code 24 = .ok (.iconst 0, 1) := by decide +kernel
theorem d0_25 : decode jdk_43_method_13_code 25 = .ok (.ireturn, 1) := by decide +kernel
theorem d0_26 : decode jdk_43_method_13_code 26 = .ok (.iinc 2 1, 3) := by decide +kernel
theorem d0_29 : decode jdk_43_method_13_code 29 = .ok (.goto (-20), 3) := by decide +kernel
theorem d0_32 : decode jdk_43_method_13_code 32 = .ok (.iconst 1, 1) := by decide +kernel
theorem d0_33 : decode jdk_43_method_13_code 33 = .ok (.ireturn, 1) := by decide +kernel
theorem efJE7 (m : MethodId) (a1 : Addr) (a2 : Addr) : entryFrame m #[(.ref a1), (.ref a2)] 3 = mkF m 0 #[rv a1, rv a2, .unset] [] := by first | (simp [entryFrame, mkF, argsToLocals, Value.category]; done) | rfl
def QJE7 (Z : State) (a1 : Addr) (a2 : Addr) (cz : Int32) (fv : Value) (k1 : ClassId) (k2 : ClassId) (u0 : Int32) (u1 : Int32) (u2 : Int32) (u3 : Int32) (u4 : Int32) (u5 : Int32) (u6 : Int32) (w0 : Int32) (w1 : Int32) (w2 : Int32) (w3 : Int32) (w4 : Int32) (w5 : Int32) (w6 : Int32) (r : Int32) (h0 : Heap) (n0 : Nat) (v : Option Value) (h : Heap) (L : List Loc) : Prop := v = some (.int r) ∧ Fr n0 L ∧ h = h0
set_option maxRecDepth 65536 in
set_option maxHeartbeats 40000000 in
theorem rmJE7 (l : Launch) (Z : State) (a0 : Array Value) (hw : HW a0 Z) (ws : List Jvm.Cond) (a1 : Addr) (a2 : Addr) (cz : Int32) (fv : Value) (k1 : ClassId) (k2 : ClassId) (u0 : Int32) (u1 : Int32) (u2 : Int32) (u3 : Int32) (u4 : Int32) (u5 : Int32) (u6 : Int32) (w0 : Int32) (w1 : Int32) (w2 : Int32) (w3 : Int32) (w4 : Int32) (w5 : Int32) (w6 : Int32) (r : Int32) (h0 : Heap) (n0 : Nat) (Z0 : n0 ≤ h0.size) (O0 : Old Z n0 h0) (J0 : Jd Z cz fv) (V1 : Arv Z h0 a1 k1 .byte (7 : Int32) [(.int u0), (.int u1), (.int u2), (.int u3), (.int u4), (.int u5), (.int u6)] (.int 0)) (V2 : Arv Z h0 a2 k2 .byte (7 : Int32) [(.int w0), (.int w1), (.int w2), (.int w3), (.int w4), (.int w5), (.int w6)] (.int 0)) (hR : eqB [u0, u1, u2, u3, u4, u5, u6] [w0, w1, w2, w3, w4, w5, w6] = r) :
    MF l Z mN0 jdk_43_method_13_code 3 (some .boolean) ws rKJE7 #[(.ref a1), (.ref a2)] h0 (QJE7 Z a1 a2 cz fv k1 k2 u0 u1 u2 u3 u4 u5 u6 w0 w1 w2 w3 w4 w5 w6 r h0 n0) := by
  refine MetFree.of_bodySF (plainFor_of_name pn0) hisR ?_
  intro p e s m args bl meth c s1 Bd hml0 hP hK
  obtain ⟨rfl, hZ, hh⟩ := hP
  have hx := Bd.exec
  have hby := Bd.bytes
  have B := @hb c _ hby
  have hown : s.vm.findClass "java/lang/StringLatin1" = some m.cls := findClass_of_methodNamed Bd.named
  have hlk : meth.locks = false := BodyLoose.notSynchronized Bd
  have hrt : ∀ {v : Option Value}, meth.sig.returnType = none → v = none := fun h => by rw [Bd.returns] at h; cases h
  have X0 : Stand p l e rKJE7 s m #[(.ref a1), (.ref a2)] bl meth c s1 [] 0 0 := Stand.of_body Bd
  have e0 : s1.heap = h0 := by rw [← hh, Bd.state]; rfl
  have N0 := Fr.nil n0
  obtain ⟨EF, hEF⟩ : ∃ f, f = entryFrame m #[(.ref a1), (.ref a2)] 3 := ⟨_, rfl⟩
  have pre0 : Go p e bl s1 (mkF m 0 #[rv a1, rv a2, .unset] []) s1 EF := fun t k => by rw [hEF]; exact castTop (efJE7 m a1 a2) k
  have pre1 : Go p e bl s1 (mkF m 1 #[rv a1, rv a2, .unset] [(.ref a1)]) s1 EF := fun t k => pre0 t (by
   exact XS.aloadN X0.here hx rfl (B d0_0) rfl rfl k)
  obtain ⟨cl2, Ar2, q2, Sz2, M2, H2, G2⟩ := id V1
  have pre3 : Go p e bl s1 (mkF m 3 #[rv a1, rv a2, .unset] [(.ref a2), (.int 7)]) s1 EF := fun t k => pre1 t (by
   refine X0.arraylength hx (hp e0 Ar2) (State.isArrayOf_alike hZ.alike Ar2.2.1) (g := (mkF m 1 #[rv a1, rv a2, .unset] [(.ref a1)])) rfl rfl (B d0_1) _ ?_
   rw [len_of Sz2 M2]
   exact XS.aloadN X0.here hx rfl (B d0_2) rfl rfl k)
  obtain ⟨cl4, Ar4, q4, Sz4, M4, H4, G4⟩ := id V2
  have pre5 : Go p e bl s1 (mkF m 4 #[rv a1, rv a2, .unset] [(.int 7), (.int 7)]) s1 EF := fun t k => pre3 t (by
   refine X0.arraylength hx (hp e0 Ar4) (State.isArrayOf_alike hZ.alike Ar4.2.1) (g := (mkF m 3 #[rv a1, rv a2, .unset] [(.ref a2), (.int 7)])) rfl rfl (B d0_3) _ ?_
   rw [len_of Sz4 M4]
   exact k)
  have pre6 : Go p e bl s1 (mkF m 7 #[rv a1, rv a2, .unset] []) s1 EF := fun t k => pre5 t (XS.icmpNo X0.here hx rfl (B d0_4) rfl (teq (by decide : (7 : Int32) = (7 : Int32))).2 k)
  have pre7 : Go p e bl s1 (mkF m 11 #[rv a1, rv a2, iv 0] [(.ref a1), (.int 0)]) s1 EF := fun t k => pre6 t (by
   refine XS.iconst X0.here hx rfl (B d0_7) ?_
   refine XS.istoreN X0.here hx rfl (B d0_8) rfl (l' := #[rv a1, rv a2, iv 0]) rfl ?_
   refine XS.iloadN X0.here hx rfl (B d0_9) rfl ?_
   exact XS.aloadN X0.here hx rfl (B d0_10) rfl rfl k)
  obtain ⟨cl8, Ar8, q8, Sz8, M8, H8, G8⟩ := id V1
  have pre9 : Go p e bl s1 (mkF m 12 #[rv a1, rv a2, iv 0] [(.int 7), (.int 0)]) s1 EF := fun t k => pre7 t (by
   refine X0.arraylength hx (hp e0 Ar8) (State.isArrayOf_alike hZ.alike Ar8.2.1) (g := (mkF m 11 #[rv a1, rv a2, iv 0] [(.ref a1), (.int 0)])) rfl rfl (B d0_11) _ ?_
   rw [len_of Sz8 M8]
   exact k)
  have pre10 : Go p e bl s1 (mkF m 15 #[rv a1, rv a2, iv 0] []) s1 EF := fun t k => pre9 t (XS.icmpNo X0.here hx rfl (B d0_12) rfl (tlt (by decide : (0 : Int32) < (7 : Int32))).2.1 k)
  have pre11 : Go p e bl s1 (mkF m 17 #[rv a1, rv a2, iv 0] [(.int 0), (.ref a1)]) s1 EF := fun t k => pre10 t (by
   refine XS.aloadN X0.here hx rfl (B d0_15) rfl rfl ?_
   exact XS.iloadN X0.here hx rfl (B d0_16) rfl k)
  obtain ⟨cl12, Ar12, q12, Sz12, M12, H12, G12⟩ := id V1
  have hin12 := inb_of (j := (0 : Int32)) Sz12 ⟨by decide, by decide⟩
  have hat12 := Has.at (v := (.int u0)) H12 hin12 rfl
  have pre13 : Go p e bl s1 (mkF m 20 #[rv a1, rv a2, iv 0] [(.int 0), (.ref a2), (.int u0)]) s1 EF := fun t k => pre11 t (by
   refine X0.baloadBytes hx (j := 0) (v := (.int u0)) (hp e0 Ar12) (State.isArrayOf_alike hZ.alike Ar12.2.1) Ar12.2.2 hin12 hat12 (g := (mkF m 17 #[rv a1, rv a2, iv 0] [(.int 0), (.ref a1)])) rfl rfl (B d0_17) _ ?_
   refine XS.aloadN X0.here hx rfl (B d0_18) rfl rfl ?_
   exact XS.iloadN X0.here hx rfl (B d0_19) rfl k)
  obtain ⟨cl14, Ar14, q14, Sz14, M14, H14, G14⟩ := id V2
  have hin14 := inb_of (j := (0 : Int32)) Sz14 ⟨by decide, by decide⟩
  have hat14 := Has.at (v := (.int w0)) H14 hin14 rfl
  have pre15 : Go p e bl s1 (mkF m 21 #[rv a1, rv a2, iv 0] [(.int w0), (.int u0)]) s1 EF := fun t k => pre13 t (by
   exact X0.baloadBytes hx (j := 0) (v := (.int w0)) (hp e0 Ar14) (State.isArrayOf_alike hZ.alike Ar14.2.1) Ar14.2.2 hin14 hat14 (g := (mkF m 20 #[rv a1, rv a2, iv 0] [(.int 0), (.ref a2), (.int u0)])) rfl rfl (B d0_20) _ k)
  by_cases hc21 : u0 = w0
  · have pre16 : Go p e bl s1 (mkF m 26 #[rv a1, rv a2, iv 0] []) s1 EF := fun t k => pre15 t (XS.icmpYes X0.here hx rfl (pc0 := 21) (pc' := 26) rfl (B d0_21) rfl (teq hc21).1 (by decide) (by decide) k)
    have pre17 : Go p e bl s1 (mkF m 11 #[rv a1, rv a2, iv 1] [(.ref a1), (.int 1)]) s1 EF := fun t k => pre16 t (by
     refine XS.iinc X0.here hx rfl (B d0_26) rfl (l' := #[rv a1, rv a2, iv 1]) rfl ?_
     refine XS.goto X0.here hx rfl (pc0 := 29) (pc' := 9) rfl (B d0_29) (by decide) (by decide) ?_
     refine XS.iloadN X0.here hx rfl (B d0_9) rfl ?_
     exact XS.aloadN X0.here hx rfl (B d0_10) rfl rfl k)
    obtain ⟨cl18, Ar18, q18, Sz18, M18, H18, G18⟩ := id V1
    have pre19 : Go p e bl s1 (mkF m 12 #[rv a1, rv a2, iv 1] [(.int 7), (.int 1)]) s1 EF := fun t k => pre17 t (by
     refine X0.arraylength hx (hp e0 Ar18) (State.isArrayOf_alike hZ.alike Ar18.2.1) (g := (mkF m 11 #[rv a1, rv a2, iv 1] [(.ref a1), (.int 1)])) rfl rfl (B d0_11) _ ?_
     rw [len_of Sz18 M18]
     exact k)
    have pre20 : Go p e bl s1 (mkF m 15 #[rv a1, rv a2, iv 1] []) s1 EF := fun t k => pre19 t (XS.icmpNo X0.here hx rfl (B d0_12) rfl (tlt (by decide : (1 : Int32) < (7 : Int32))).2.1 k)
    have pre21 : Go p e bl s1 (mkF m 17 #[rv a1, rv a2, iv 1] [(.int 1), (.ref a1)]) s1 EF := fun t k => pre20 t (by
     refine XS.aloadN X0.here hx rfl (B d0_15) rfl rfl ?_
     exact XS.iloadN X0.here hx rfl (B d0_16) rfl k)
    obtain ⟨cl22, Ar22, q22, Sz22, M22, H22, G22⟩ := id V1
    have hin22 := inb_of (j := (1 : Int32)) Sz22 ⟨by decide, by decide⟩
    have hat22 := Has.at (v := (.int u1)) H22 hin22 rfl
    have pre23 : Go p e bl s1 (mkF m 20 #[rv a1, rv a2, iv 1] [(.int 1), (.ref a2), (.int u1)]) s1 EF := fun t k => pre21 t (by
     refine X0.baloadBytes hx (j := 1) (v := (.int u1)) (hp e0 Ar22) (State.isArrayOf_alike hZ.alike Ar22.2.1) Ar22.2.2 hin22 hat22 (g := (mkF m 17 #[rv a1, rv a2, iv 1] [(.int 1), (.ref a1)])) rfl rfl (B d0_17) _ ?_
     refine XS.aloadN X0.here hx rfl (B d0_18) rfl rfl ?_
     exact XS.iloadN X0.here hx rfl (B d0_19) rfl k)
    obtain ⟨cl24, Ar24, q24, Sz24, M24, H24, G24⟩ := id V2
    have hin24 := inb_of (j := (1 : Int32)) Sz24 ⟨by decide, by decide⟩
    have hat24 := Has.at (v := (.int w1)) H24 hin24 rfl
    have pre25 : Go p e bl s1 (mkF m 21 #[rv a1, rv a2, iv 1] [(.int w1), (.int u1)]) s1 EF := fun t k => pre23 t (by
     exact X0.baloadBytes hx (j := 1) (v := (.int w1)) (hp e0 Ar24) (State.isArrayOf_alike hZ.alike Ar24.2.1) Ar24.2.2 hin24 hat24 (g := (mkF m 20 #[rv a1, rv a2, iv 1] [(.int 1), (.ref a2), (.int u1)])) rfl rfl (B d0_20) _ k)
    by_cases hc21' : u1 = w1
    · have pre26 : Go p e bl s1 (mkF m 26 #[rv a1, rv a2, iv 1] []) s1 EF := fun t k => pre25 t (XS.icmpYes X0.here hx rfl (pc0 := 21) (pc' := 26) rfl (B d0_21) rfl (teq hc21').1 (by decide) (by decide) k)
      have pre27 : Go p e bl s1 (mkF m 11 #[rv a1, rv a2, iv 2] [(.ref a1), (.int 2)]) s1 EF := fun t k => pre26 t (by
       refine XS.iinc X0.here hx rfl (B d0_26) rfl (l' := #[rv a1, rv a2, iv 2]) rfl ?_
       refine XS.goto X0.here hx rfl (pc0 := 29) (pc' := 9) rfl (B d0_29) (by decide) (by decide) ?_
       refine XS.iloadN X0.here hx rfl (B d0_9) rfl ?_
       exact XS.aloadN X0.here hx rfl (B d0_10) rfl rfl k)
      obtain ⟨cl28, Ar28, q28, Sz28, M28, H28, G28⟩ := id V1
      have pre29 : Go p e bl s1 (mkF m 12 #[rv a1, rv a2, iv 2] [(.int 7), (.int 2)]) s1 EF := fun t k => pre27 t (by
       refine X0.arraylength hx (hp e0 Ar28) (State.isArrayOf_alike hZ.alike Ar28.2.1) (g := (mkF m 11 #[rv a1, rv a2, iv 2] [(.ref a1), (.int 2)])) rfl rfl (B d0_11) _ ?_
       rw [len_of Sz28 M28]
       exact k)
      have pre30 : Go p e bl s1 (mkF m 15 #[rv a1, rv a2, iv 2] []) s1 EF := fun t k => pre29 t (XS.icmpNo X0.here hx rfl (B d0_12) rfl (tlt (by decide : (2 : Int32) < (7 : Int32))).2.1 k)
      have pre31 : Go p e bl s1 (mkF m 17 #[rv a1, rv a2, iv 2] [(.int 2), (.ref a1)]) s1 EF := fun t k => pre30 t (by
       refine XS.aloadN X0.here hx rfl (B d0_15) rfl rfl ?_
       exact XS.iloadN X0.here hx rfl (B d0_16) rfl k)
      obtain ⟨cl32, Ar32, q32, Sz32, M32, H32, G32⟩ := id V1
      have hin32 := inb_of (j := (2 : Int32)) Sz32 ⟨by decide, by decide⟩
      have hat32 := Has.at (v := (.int u2)) H32 hin32 rfl
      have pre33 : Go p e bl s1 (mkF m 20 #[rv a1, rv a2, iv 2] [(.int 2), (.ref a2), (.int u2)]) s1 EF := fun t k => pre31 t (by
       refine X0.baloadBytes hx (j := 2) (v := (.int u2)) (hp e0 Ar32) (State.isArrayOf_alike hZ.alike Ar32.2.1) Ar32.2.2 hin32 hat32 (g := (mkF m 17 #[rv a1, rv a2, iv 2] [(.int 2), (.ref a1)])) rfl rfl (B d0_17) _ ?_
       refine XS.aloadN X0.here hx rfl (B d0_18) rfl rfl ?_
       exact XS.iloadN X0.here hx rfl (B d0_19) rfl k)
      obtain ⟨cl34, Ar34, q34, Sz34, M34, H34, G34⟩ := id V2
      have hin34 := inb_of (j := (2 : Int32)) Sz34 ⟨by decide, by decide⟩
      have hat34 := Has.at (v := (.int w2)) H34 hin34 rfl
      have pre35 : Go p e bl s1 (mkF m 21 #[rv a1, rv a2, iv 2] [(.int w2), (.int u2)]) s1 EF := fun t k => pre33 t (by
       exact X0.baloadBytes hx (j := 2) (v := (.int w2)) (hp e0 Ar34) (State.isArrayOf_alike hZ.alike Ar34.2.1) Ar34.2.2 hin34 hat34 (g := (mkF m 20 #[rv a1, rv a2, iv 2] [(.int 2), (.ref a2), (.int u2)])) rfl rfl (B d0_20) _ k)
      by_cases hc21'' : u2 = w2
      · have pre36 : Go p e bl s1 (mkF m 26 #[rv a1, rv a2, iv 2] []) s1 EF := fun t k => pre35 t (XS.icmpYes X0.here hx rfl (pc0 := 21) (pc' := 26) rfl (B d0_21) rfl (teq hc21'').1 (by decide) (by decide) k)
        have pre37 : Go p e bl s1 (mkF m 11 #[rv a1, rv a2, iv 3] [(.ref a1), (.int 3)]) s1 EF := fun t k => pre36 t (by
         refine XS.iinc X0.here hx rfl (B d0_26) rfl (l' := #[rv a1, rv a2, iv 3]) rfl ?_
         refine XS.goto X0.here hx rfl (pc0 := 29) (pc' := 9) rfl (B d0_29) (by decide) (by decide) ?_
         refine XS.iloadN X0.here hx rfl (B d0_9) rfl ?_
         exact XS.aloadN X0.here hx rfl (B d0_10) rfl rfl k)
        obtain ⟨cl38, Ar38, q38, Sz38, M38, H38, G38⟩ := id V1
        have pre39 : Go p e bl s1 (mkF m 12 #[rv a1, rv a2, iv 3] [(.int 7), (.int 3)]) s1 EF := fun t k => pre37 t (by
         refine X0.arraylength hx (hp e0 Ar38) (State.isArrayOf_alike hZ.alike Ar38.2.1) (g := (mkF m 11 #[rv a1, rv a2, iv 3] [(.ref a1), (.int 3)])) rfl rfl (B d0_11) _ ?_
         rw [len_of Sz38 M38]
         exact k)
        have pre40 : Go p e bl s1 (mkF m 15 #[rv a1, rv a2, iv 3] []) s1 EF := fun t k => pre39 t (XS.icmpNo X0.here hx rfl (B d0_12) rfl (tlt (by decide : (3 : Int32) < (7 : Int32))).2.1 k)
        have pre41 : Go p e bl s1 (mkF m 17 #[rv a1, rv a2, iv 3] [(.int 3), (.ref a1)]) s1 EF := fun t k => pre40 t (by
         refine XS.aloadN X0.here hx rfl (B d0_15) rfl rfl ?_
         exact XS.iloadN X0.here hx rfl (B d0_16) rfl k)
        obtain ⟨cl42, Ar42, q42, Sz42, M42, H42, G42⟩ := id V1
        have hin42 := inb_of (j := (3 : Int32)) Sz42 ⟨by decide, by decide⟩
        have hat42 := Has.at (v := (.int u3)) H42 hin42 rfl
        have pre43 : Go p e bl s1 (mkF m 20 #[rv a1, rv a2, iv 3] [(.int 3), (.ref a2), (.int u3)]) s1 EF := fun t k => pre41 t (by
         refine X0.baloadBytes hx (j := 3) (v := (.int u3)) (hp e0 Ar42) (State.isArrayOf_alike hZ.alike Ar42.2.1) Ar42.2.2 hin42 hat42 (g := (mkF m 17 #[rv a1, rv a2, iv 3] [(.int 3), (.ref a1)])) rfl rfl (B d0_17) _ ?_
         refine XS.aloadN X0.here hx rfl (B d0_18) rfl rfl ?_
         exact XS.iloadN X0.here hx rfl (B d0_19) rfl k)
        obtain ⟨cl44, Ar44, q44, Sz44, M44, H44, G44⟩ := id V2
        have hin44 := inb_of (j := (3 : Int32)) Sz44 ⟨by decide, by decide⟩
        have hat44 := Has.at (v := (.int w3)) H44 hin44 rfl
        have pre45 : Go p e bl s1 (mkF m 21 #[rv a1, rv a2, iv 3] [(.int w3), (.int u3)]) s1 EF := fun t k => pre43 t (by
         exact X0.baloadBytes hx (j := 3) (v := (.int w3)) (hp e0 Ar44) (State.isArrayOf_alike hZ.alike Ar44.2.1) Ar44.2.2 hin44 hat44 (g := (mkF m 20 #[rv a1, rv a2, iv 3] [(.int 3), (.ref a2), (.int u3)])) rfl rfl (B d0_20) _ k)
        by_cases hc21''' : u3 = w3
        · have pre46 : Go p e bl s1 (mkF m 26 #[rv a1, rv a2, iv 3] []) s1 EF := fun t k => pre45 t (XS.icmpYes X0.here hx rfl (pc0 := 21) (pc' := 26) rfl (B d0_21) rfl (teq hc21''').1 (by decide) (by decide) k)
          have pre47 : Go p e bl s1 (mkF m 11 #[rv a1, rv a2, iv 4] [(.ref a1), (.int 4)]) s1 EF := fun t k => pre46 t (by
           refine XS.iinc X0.here hx rfl (B d0_26) rfl (l' := #[rv a1, rv a2, iv 4]) rfl ?_
           refine XS.goto X0.here hx rfl (pc0 := 29) (pc' := 9) rfl (B d0_29) (by decide) (by decide) ?_
           refine XS.iloadN X0.here hx rfl (B d0_9) rfl ?_
           exact XS.aloadN X0.here hx rfl (B d0_10) rfl rfl k)
          obtain ⟨cl48, Ar48, q48, Sz48, M48, H48, G48⟩ := id V1
          have pre49 : Go p e bl s1 (mkF m 12 #[rv a1, rv a2, iv 4] [(.int 7), (.int 4)]) s1 EF := fun t k => pre47 t (by
           refine X0.arraylength hx (hp e0 Ar48) (State.isArrayOf_alike hZ.alike Ar48.2.1) (g := (mkF m 11 #[rv a1, rv a2, iv 4] [(.ref a1), (.int 4)])) rfl rfl (B d0_11) _ ?_
           rw [len_of Sz48 M48]
           exact k)
          have pre50 : Go p e bl s1 (mkF m 15 #[rv a1, rv a2, iv 4] []) s1 EF := fun t k => pre49 t (XS.icmpNo X0.here hx rfl (B d0_12) rfl (tlt (by decide : (4 : Int32) < (7 : Int32))).2.1 k)
          have pre51 : Go p e bl s1 (mkF m 17 #[rv a1, rv a2, iv 4] [(.int 4), (.ref a1)]) s1 EF := fun t k => pre50 t (by
           refine XS.aloadN X0.here hx rfl (B d0_15) rfl rfl ?_
           exact XS.iloadN X0.here hx rfl (B d0_16) rfl k)
          obtain ⟨cl52, Ar52, q52, Sz52, M52, H52, G52⟩ := id V1
          have hin52 := inb_of (j := (4 : Int32)) Sz52 ⟨by decide, by decide⟩
          have hat52 := Has.at (v := (.int u4)) H52 hin52 rfl
          have pre53 : Go p e bl s1 (mkF m 20 #[rv a1, rv a2, iv 4] [(.int 4), (.ref a2), (.int u4)]) s1 EF := fun t k => pre51 t (by
           refine X0.baloadBytes hx (j := 4) (v := (.int u4)) (hp e0 Ar52) (State.isArrayOf_alike hZ.alike Ar52.2.1) Ar52.2.2 hin52 hat52 (g := (mkF m 17 #[rv a1, rv a2, iv 4] [(.int 4), (.ref a1)])) rfl rfl (B d0_17) _ ?_
           refine XS.aloadN X0.here hx rfl (B d0_18) rfl rfl ?_
           exact XS.iloadN X0.here hx rfl (B d0_19) rfl k)
          obtain ⟨cl54, Ar54, q54, Sz54, M54, H54, G54⟩ := id V2
          have hin54 := inb_of (j := (4 : Int32)) Sz54 ⟨by decide, by decide⟩
          have hat54 := Has.at (v := (.int w4)) H54 hin54 rfl
          have pre55 : Go p e bl s1 (mkF m 21 #[rv a1, rv a2, iv 4] [(.int w4), (.int u4)]) s1 EF := fun t k => pre53 t (by
           exact X0.baloadBytes hx (j := 4) (v := (.int w4)) (hp e0 Ar54) (State.isArrayOf_alike hZ.alike Ar54.2.1) Ar54.2.2 hin54 hat54 (g := (mkF m 20 #[rv a1, rv a2, iv 4] [(.int 4), (.ref a2), (.int u4)])) rfl rfl (B d0_20) _ k)
          by_cases hc21'''' : u4 = w4
          · have pre56 : Go p e bl s1 (mkF m 26 #[rv a1, rv a2, iv 4] []) s1 EF := fun t k => pre55 t (XS.icmpYes X0.here hx rfl (pc0 := 21) (pc' := 26) rfl (B d0_21) rfl (teq hc21'''').1 (by decide) (by decide) k)
            have pre57 : Go p e bl s1 (mkF m 11 #[rv a1, rv a2, iv 5] [(.ref a1), (.int 5)]) s1 EF := fun t k => pre56 t (by
             refine XS.iinc X0.here hx rfl (B d0_26) rfl (l' := #[rv a1, rv a2, iv 5]) rfl ?_
             refine XS.goto X0.here hx rfl (pc0 := 29) (pc' := 9) rfl (B d0_29) (by decide) (by decide) ?_
             refine XS.iloadN X0.here hx rfl (B d0_9) rfl ?_
             exact XS.aloadN X0.here hx rfl (B d0_10) rfl rfl k)
            obtain ⟨cl58, Ar58, q58, Sz58, M58, H58, G58⟩ := id V1
            have pre59 : Go p e bl s1 (mkF m 12 #[rv a1, rv a2, iv 5] [(.int 7), (.int 5)]) s1 EF := fun t k => pre57 t (by
             refine X0.arraylength hx (hp e0 Ar58) (State.isArrayOf_alike hZ.alike Ar58.2.1) (g := (mkF m 11 #[rv a1, rv a2, iv 5] [(.ref a1), (.int 5)])) rfl rfl (B d0_11) _ ?_
             rw [len_of Sz58 M58]
             exact k)
            have pre60 : Go p e bl s1 (mkF m 15 #[rv a1, rv a2, iv 5] []) s1 EF := fun t k => pre59 t (XS.icmpNo X0.here hx rfl (B d0_12) rfl (tlt (by decide : (5 : Int32) < (7 : Int32))).2.1 k)
            have pre61 : Go p e bl s1 (mkF m 17 #[rv a1, rv a2, iv 5] [(.int 5), (.ref a1)]) s1 EF := fun t k => pre60 t (by
             refine XS.aloadN X0.here hx rfl (B d0_15) rfl rfl ?_
             exact XS.iloadN X0.here hx rfl (B d0_16) rfl k)
            obtain ⟨cl62, Ar62, q62, Sz62, M62, H62, G62⟩ := id V1
            have hin62 := inb_of (j := (5 : Int32)) Sz62 ⟨by decide, by decide⟩
            have hat62 := Has.at (v := (.int u5)) H62 hin62 rfl
            have pre63 : Go p e bl s1 (mkF m 20 #[rv a1, rv a2, iv 5] [(.int 5), (.ref a2), (.int u5)]) s1 EF := fun t k => pre61 t (by
             refine X0.baloadBytes hx (j := 5) (v := (.int u5)) (hp e0 Ar62) (State.isArrayOf_alike hZ.alike Ar62.2.1) Ar62.2.2 hin62 hat62 (g := (mkF m 17 #[rv a1, rv a2, iv 5] [(.int 5), (.ref a1)])) rfl rfl (B d0_17) _ ?_
             refine XS.aloadN X0.here hx rfl (B d0_18) rfl rfl ?_
             exact XS.iloadN X0.here hx rfl (B d0_19) rfl k)
            obtain ⟨cl64, Ar64, q64, Sz64, M64, H64, G64⟩ := id V2
            have hin64 := inb_of (j := (5 : Int32)) Sz64 ⟨by decide, by decide⟩
            have hat64 := Has.at (v := (.int w5)) H64 hin64 rfl
            have pre65 : Go p e bl s1 (mkF m 21 #[rv a1, rv a2, iv 5] [(.int w5), (.int u5)]) s1 EF := fun t k => pre63 t (by
             exact X0.baloadBytes hx (j := 5) (v := (.int w5)) (hp e0 Ar64) (State.isArrayOf_alike hZ.alike Ar64.2.1) Ar64.2.2 hin64 hat64 (g := (mkF m 20 #[rv a1, rv a2, iv 5] [(.int 5), (.ref a2), (.int u5)])) rfl rfl (B d0_20) _ k)
            by_cases hc21''''' : u5 = w5
            · have pre66 : Go p e bl s1 (mkF m 26 #[rv a1, rv a2, iv 5] []) s1 EF := fun t k => pre65 t (XS.icmpYes X0.here hx rfl (pc0 := 21) (pc' := 26) rfl (B d0_21) rfl (teq hc21''''').1 (by decide) (by decide) k)
              have pre67 : Go p e bl s1 (mkF m 11 #[rv a1, rv a2, iv 6] [(.ref a1), (.int 6)]) s1 EF := fun t k => pre66 t (by
               refine XS.iinc X0.here hx rfl (B d0_26) rfl (l' := #[rv a1, rv a2, iv 6]) rfl ?_
               refine XS.goto X0.here hx rfl (pc0 := 29) (pc' := 9) rfl (B d0_29) (by decide) (by decide) ?_
               refine XS.iloadN X0.here hx rfl (B d0_9) rfl ?_
               exact XS.aloadN X0.here hx rfl (B d0_10) rfl rfl k)
              obtain ⟨cl68, Ar68, q68, Sz68, M68, H68, G68⟩ := id V1
              have pre69 : Go p e bl s1 (mkF m 12 #[rv a1, rv a2, iv 6] [(.int 7), (.int 6)]) s1 EF := fun t k => pre67 t (by
               refine X0.arraylength hx (hp e0 Ar68) (State.isArrayOf_alike hZ.alike Ar68.2.1) (g := (mkF m 11 #[rv a1, rv a2, iv 6] [(.ref a1), (.int 6)])) rfl rfl (B d0_11) _ ?_
               rw [len_of Sz68 M68]
               exact k)
              have pre70 : Go p e bl s1 (mkF m 15 #[rv a1, rv a2, iv 6] []) s1 EF := fun t k => pre69 t (XS.icmpNo X0.here hx rfl (B d0_12) rfl (tlt (by decide : (6 : Int32) < (7 : Int32))).2.1 k)
              have pre71 : Go p e bl s1 (mkF m 17 #[rv a1, rv a2, iv 6] [(.int 6), (.ref a1)]) s1 EF := fun t k => pre70 t (by
               refine XS.aloadN X0.here hx rfl (B d0_15) rfl rfl ?_
               exact XS.iloadN X0.here hx rfl (B d0_16) rfl k)
              obtain ⟨cl72, Ar72, q72, Sz72, M72, H72, G72⟩ := id V1
              have hin72 := inb_of (j := (6 : Int32)) Sz72 ⟨by decide, by decide⟩
              have hat72 := Has.at (v := (.int u6)) H72 hin72 rfl
              have pre73 : Go p e bl s1 (mkF m 20 #[rv a1, rv a2, iv 6] [(.int 6), (.ref a2), (.int u6)]) s1 EF := fun t k => pre71 t (by
               refine X0.baloadBytes hx (j := 6) (v := (.int u6)) (hp e0 Ar72) (State.isArrayOf_alike hZ.alike Ar72.2.1) Ar72.2.2 hin72 hat72 (g := (mkF m 17 #[rv a1, rv a2, iv 6] [(.int 6), (.ref a1)])) rfl rfl (B d0_17) _ ?_
               refine XS.aloadN X0.here hx rfl (B d0_18) rfl rfl ?_
               exact XS.iloadN X0.here hx rfl (B d0_19) rfl k)
              obtain ⟨cl74, Ar74, q74, Sz74, M74, H74, G74⟩ := id V2
              have hin74 := inb_of (j := (6 : Int32)) Sz74 ⟨by decide, by decide⟩
              have hat74 := Has.at (v := (.int w6)) H74 hin74 rfl
              have pre75 : Go p e bl s1 (mkF m 21 #[rv a1, rv a2, iv 6] [(.int w6), (.int u6)]) s1 EF := fun t k => pre73 t (by
               exact X0.baloadBytes hx (j := 6) (v := (.int w6)) (hp e0 Ar74) (State.isArrayOf_alike hZ.alike Ar74.2.1) Ar74.2.2 hin74 hat74 (g := (mkF m 20 #[rv a1, rv a2, iv 6] [(.int 6), (.ref a2), (.int u6)])) rfl rfl (B d0_20) _ k)
              by_cases hc21'''''' : u6 = w6
              · have pre76 : Go p e bl s1 (mkF m 26 #[rv a1, rv a2, iv 6] []) s1 EF := fun t k => pre75 t (XS.icmpYes X0.here hx rfl (pc0 := 21) (pc' := 26) rfl (B d0_21) rfl (teq hc21'''''').1 (by decide) (by decide) k)
                have pre77 : Go p e bl s1 (mkF m 11 #[rv a1, rv a2, iv 7] [(.ref a1), (.int 7)]) s1 EF := fun t k => pre76 t (by
                 refine XS.iinc X0.here hx rfl (B d0_26) rfl (l' := #[rv a1, rv a2, iv 7]) rfl ?_
                 refine XS.goto X0.here hx rfl (pc0 := 29) (pc' := 9) rfl (B d0_29) (by decide) (by decide) ?_
                 refine XS.iloadN X0.here hx rfl (B d0_9) rfl ?_
                 exact XS.aloadN X0.here hx rfl (B d0_10) rfl rfl k)
                obtain ⟨cl78, Ar78, q78, Sz78, M78, H78, G78⟩ := id V1
                have pre79 : Go p e bl s1 (mkF m 12 #[rv a1, rv a2, iv 7] [(.int 7), (.int 7)]) s1 EF := fun t k => pre77 t (by
                 refine X0.arraylength hx (hp e0 Ar78) (State.isArrayOf_alike hZ.alike Ar78.2.1) (g := (mkF m 11 #[rv a1, rv a2, iv 7] [(.ref a1), (.int 7)])) rfl rfl (B d0_11) _ ?_
                 rw [len_of Sz78 M78]
                 exact k)
                have pre80 : Go p e bl s1 (mkF m 32 #[rv a1, rv a2, iv 7] []) s1 EF := fun t k => pre79 t (XS.icmpYes X0.here hx rfl (pc0 := 12) (pc' := 32) rfl (B d0_12) rfl (flt (by decide : ¬ ((7 : Int32) < (7 : Int32)))).2.1 (by decide) (by decide) k)
                have pre81 : Go p e bl s1 (mkF m 33 #[rv a1, rv a2, iv 7] [(.int 1)]) s1 EF := fun t k => pre80 t (by
                 exact XS.iconst X0.here hx rfl (B d0_32) k)
                have hnr : Value.int (nar .boolean (1 : Int32)) = (.int 1) := by rfl
                exact fin1 X0 (v := some (.int 1)) hrt hlk (wl rfl) (wl rfl) (by rw [e0]; exact ⟨by rw [← hR]; simp [eqB, hc21, hc21', hc21'', hc21''', hc21'''', hc21''''', hc21''''''], N0, rfl⟩) (fun fs hr => hEF ▸ pre81 _ (retN X0 hx (t := .boolean) Bd.returns (by simp) (B d0_33) (hnr ▸ hr)))
              have pre82 : Go p e bl s1 (mkF m 24 #[rv a1, rv a2, iv 6] []) s1 EF := fun t k => pre75 t (XS.icmpNo X0.here hx rfl (B d0_21) rfl (feq hc21'''''').1 k)
              have pre83 : Go p e bl s1 (mkF m 25 #[rv a1, rv a2, iv 6] [(.int 0)]) s1 EF := fun t k => pre82 t (by
               exact XS.iconst X0.here hx rfl (B d0_24) k)
              have hnr : Value.int (nar .boolean (0 : Int32)) = (.int 0) := by rfl
              exact fin1 X0 (v := some (.int 0)) hrt hlk (wl rfl) (wl rfl) (by rw [e0]; exact ⟨by rw [← hR]; simp [eqB, hc21, hc21', hc21'', hc21''', hc21'''', hc21''''', hc21''''''], N0, rfl⟩) (fun fs hr => hEF ▸ pre83 _ (retN X0 hx (t := .boolean) Bd.returns (by simp) (B d0_25) (hnr ▸ hr)))
            have pre84 : Go p e bl s1 (mkF m 24 #[rv a1, rv a2, iv 5] []) s1 EF := fun t k => pre65 t (XS.icmpNo X0.here hx rfl (B d0_21) rfl (feq hc21''''').1 k)
            have pre85 : Go p e bl s1 (mkF m 25 #[rv a1, rv a2, iv 5] [(.int 0)]) s1 EF := fun t k => pre84 t (by
             exact XS.iconst X0.here hx rfl (B d0_24) k)
            have hnr : Value.int (nar .boolean (0 : Int32)) = (.int 0) := by rfl
            exact fin1 X0 (v := some (.int 0)) hrt hlk (wl rfl) (wl rfl) (by rw [e0]; exact ⟨by rw [← hR]; simp [eqB, hc21, hc21', hc21'', hc21''', hc21'''', hc21'''''], N0, rfl⟩) (fun fs hr => hEF ▸ pre85 _ (retN X0 hx (t := .boolean) Bd.returns (by simp) (B d0_25) (hnr ▸ hr)))
          have pre86 : Go p e bl s1 (mkF m 24 #[rv a1, rv a2, iv 4] []) s1 EF := fun t k => pre55 t (XS.icmpNo X0.here hx rfl (B d0_21) rfl (feq hc21'''').1 k)
          have pre87 : Go p e bl s1 (mkF m 25 #[rv a1, rv a2, iv 4] [(.int 0)]) s1 EF := fun t k => pre86 t (by
           exact XS.iconst X0.here hx rfl (B d0_24) k)
          have hnr : Value.int (nar .boolean (0 : Int32)) = (.int 0) := by rfl
          exact fin1 X0 (v := some (.int 0)) hrt hlk (wl rfl) (wl rfl) (by rw [e0]; exact ⟨by rw [← hR]; simp [eqB, hc21, hc21', hc21'', hc21''', hc21''''], N0, rfl⟩) (fun fs hr => hEF ▸ pre87 _ (retN X0 hx (t := .boolean) Bd.returns (by simp) (B d0_25) (hnr ▸ hr)))
        have pre88 : Go p e bl s1 (mkF m 24 #[rv a1, rv a2, iv 3] []) s1 EF := fun t k => pre45 t (XS.icmpNo X0.here hx rfl (B d0_21) rfl (feq hc21''').1 k)
        have pre89 : Go p e bl s1 (mkF m 25 #[rv a1, rv a2, iv 3] [(.int 0)]) s1 EF := fun t k => pre88 t (by
         exact XS.iconst X0.here hx rfl (B d0_24) k)
        have hnr : Value.int (nar .boolean (0 : Int32)) = (.int 0) := by rfl
        exact fin1 X0 (v := some (.int 0)) hrt hlk (wl rfl) (wl rfl) (by rw [e0]; exact ⟨by rw [← hR]; simp [eqB, hc21, hc21', hc21'', hc21'''], N0, rfl⟩) (fun fs hr => hEF ▸ pre89 _ (retN X0 hx (t := .boolean) Bd.returns (by simp) (B d0_25) (hnr ▸ hr)))
      have pre90 : Go p e bl s1 (mkF m 24 #[rv a1, rv a2, iv 2] []) s1 EF := fun t k => pre35 t (XS.icmpNo X0.here hx rfl (B d0_21) rfl (feq hc21'').1 k)
      have pre91 : Go p e bl s1 (mkF m 25 #[rv a1, rv a2, iv 2] [(.int 0)]) s1 EF := fun t k => pre90 t (by
       exact XS.iconst X0.here hx rfl (B d0_24) k)
      have hnr : Value.int (nar .boolean (0 : Int32)) = (.int 0) := by rfl
      exact fin1 X0 (v := some (.int 0)) hrt hlk (wl rfl) (wl rfl) (by rw [e0]; exact ⟨by rw [← hR]; simp [eqB, hc21, hc21', hc21''], N0, rfl⟩) (fun fs hr => hEF ▸ pre91 _ (retN X0 hx (t := .boolean) Bd.returns (by simp) (B d0_25) (hnr ▸ hr)))
    have pre92 : Go p e bl s1 (mkF m 24 #[rv a1, rv a2, iv 1] []) s1 EF := fun t k => pre25 t (XS.icmpNo X0.here hx rfl (B d0_21) rfl (feq hc21').1 k)
    have pre93 : Go p e bl s1 (mkF m 25 #[rv a1, rv a2, iv 1] [(.int 0)]) s1 EF := fun t k => pre92 t (by
     exact XS.iconst X0.here hx rfl (B d0_24) k)
    have hnr : Value.int (nar .boolean (0 : Int32)) = (.int 0) := by rfl
    exact fin1 X0 (v := some (.int 0)) hrt hlk (wl rfl) (wl rfl) (by rw [e0]; exact ⟨by rw [← hR]; simp [eqB, hc21, hc21'], N0, rfl⟩) (fun fs hr => hEF ▸ pre93 _ (retN X0 hx (t := .boolean) Bd.returns (by simp) (B d0_25) (hnr ▸ hr)))
  have pre94 : Go p e bl s1 (mkF m 24 #[rv a1, rv a2, iv 0] []) s1 EF := fun t k => pre15 t (XS.icmpNo X0.here hx rfl (B d0_21) rfl (feq hc21).1 k)
  have pre95 : Go p e bl s1 (mkF m 25 #[rv a1, rv a2, iv 0] [(.int 0)]) s1 EF := fun t k => pre94 t (by
   exact XS.iconst X0.here hx rfl (B d0_24) k)
  have hnr : Value.int (nar .boolean (0 : Int32)) = (.int 0) := by rfl
  exact fin1 X0 (v := some (.int 0)) hrt hlk (wl rfl) (wl rfl) (by rw [e0]; exact ⟨by rw [← hR]; simp [eqB, hc21], N0, rfl⟩) (fun fs hr => hEF ▸ pre95 _ (retN X0 hx (t := .boolean) Bd.returns (by simp) (B d0_25) (hnr ▸ hr)))
abbrev rKJE9 : Room := { frames := 0, cells := 0, slots := 0, locals := 0 }
theorem efJE9 (m : MethodId) (a1 : Addr) (a2 : Addr) : entryFrame m #[(.ref a1), (.ref a2)] 3 = mkF m 0 #[rv a1, rv a2, .unset] [] := by first | (simp [entryFrame, mkF, argsToLocals, Value.category]; done) | rfl
def QJE9 (Z : State) (a1 : Addr) (a2 : Addr) (cz : Int32) (fv : Value) (k1 : ClassId) (k2 : ClassId) (u0 : Int32) (u1 : Int32) (u2 : Int32) (u3 : Int32) (u4 : Int32) (u5 : Int32) (u6 : Int32) (u7 : Int32) (u8 : Int32) (w0 : Int32) (w1 : Int32) (w2 : Int32) (w3 : Int32) (w4 : Int32) (w5 : Int32) (w6 : Int32) (w7 : Int32) (w8 : Int32) (r : Int32) (h0 : Heap) (n0 : Nat) (v : Option Value) (h : Heap) (L : List Loc) : Prop := v = some (.int r) ∧ Fr n0 L ∧ h = h0
set_option maxRecDepth 65536 in
set_option maxHeartbeats 40000000 in
theorem rmJE9 (l : Launch) (Z : State) (a0 : Array Value) (hw : HW a0 Z) (ws : List Jvm.Cond) (a1 : Addr) (a2 : Addr) (cz : Int32) (fv : Value) (k1 : ClassId) (k2 : ClassId) (u0 : Int32) (u1 : Int32) (u2 : Int32) (u3 : Int32) (u4 : Int32) (u5 : Int32) (u6 : Int32) (u7 : Int32) (u8 : Int32) (w0 : Int32) (w1 : Int32) (w2 : Int32) (w3 : Int32) (w4 : Int32) (w5 : Int32) (w6 : Int32) (w7 : Int32) (w8 : Int32) (r : Int32) (h0 : Heap) (n0 : Nat) (Z0 : n0 ≤ h0.size) (O0 : Old Z n0 h0) (J0 : Jd Z cz fv) (V1 : Arv Z h0 a1 k1 .byte (9 : Int32) [(.int u0), (.int u1), (.int u2), (.int u3), (.int u4), (.int u5), (.int u6), (.int u7), (.int u8)] (.int 0)) (V2 : Arv Z h0 a2 k2 .byte (9 : Int32) [(.int w0), (.int w1), (.int w2), (.int w3), (.int w4), (.int w5), (.int w6), (.int w7), (.int w8)] (.int 0)) (hR : eqB [u0, u1, u2, u3, u4, u5, u6, u7, u8] [w0, w1, w2, w3, w4, w5, w6, w7, w8] = r) :
    MF l Z mN0 jdk_43_method_13_code 3 (some .boolean) ws rKJE9 #[(.ref a1), (.ref a2)] h0 (QJE9 Z a1 a2 cz fv k1 k2 u0 u1 u2 u3 u4 u5 u6 u7 u8 w0 w1 w2 w3 w4 w5 w6 w7 w8 r h0 n0) := by
  refine MetFree.of_bodySF (plainFor_of_name pn0) hisR ?_
  intro p e s m args bl meth c s1 Bd hml0 hP hK
  obtain ⟨rfl, hZ, hh⟩ := hP
  have hx := Bd.exec
  have hby := Bd.bytes
  have B := @hb c _ hby
  have hown : s.vm.findClass "java/lang/StringLatin1" = some m.cls := findClass_of_methodNamed Bd.named
  have hlk : meth.locks = false := BodyLoose.notSynchronized Bd
  have hrt : ∀ {v : Option Value}, meth.sig.returnType = none → v = none := fun h => by rw [Bd.returns] at h; cases h
  have X0 : Stand p l e rKJE9 s m #[(.ref a1), (.ref a2)] bl meth c s1 [] 0 0 := Stand.of_body Bd
  have e0 : s1.heap = h0 := by rw [← hh, Bd.state]; rfl
  have N0 := Fr.nil n0
  obtain ⟨EF, hEF⟩ : ∃ f, f = entryFrame m #[(.ref a1), (.ref a2)] 3 := ⟨_, rfl⟩
  have pre0 : Go p e bl s1 (mkF m 0 #[rv a1, rv a2, .unset] []) s1 EF := fun t k => by rw [hEF]; exact castTop (efJE9 m a1 a2) k
  have pre1 : Go p e bl s1 (mkF m 1 #[rv a1, rv a2, .unset] [(.ref a1)]) s1 EF := fun t k => pre0 t (by
   exact XS.aloadN X0.here hx rfl (B d0_0) rfl rfl k)
  obtain ⟨cl2, Ar2, q2, Sz2, M2, H2, G2⟩ := id V1
  have pre3 : Go p e bl s1 (mkF m 3 #[rv a1, rv a2, .unset] [(.ref a2), (.int 9)]) s1 EF := fun t k => pre1 t (by
   refine X0.arraylength hx (hp e0 Ar2) (State.isArrayOf_alike hZ.alike Ar2.2.1) (g := (mkF m 1 #[rv a1, rv a2, .unset] [(.ref a1)])) rfl rfl (B d0_1) _ ?_
   rw [len_of Sz2 M2]
   exact XS.aloadN X0.here hx rfl (B d0_2) rfl rfl k)
  obtain ⟨cl4, Ar4, q4, Sz4, M4, H4, G4⟩ := id V2
  have pre5 : Go p e bl s1 (mkF m 4 #[rv a1, rv a2, .unset] [(.int 9), (.int 9)]) s1 EF := fun t k => pre3 t (by
   refine X0.arraylength hx (hp e0 Ar4) (State.isArrayOf_alike hZ.alike Ar4.2.1) (g := (mkF m 3 #[rv a1, rv a2, .unset] [(.ref a2), (.int 9)])) rfl rfl (B d0_3) _ ?_
   rw [len_of Sz4 M4]
   exact k)
  have pre6 : Go p e bl s1 (mkF m 7 #[rv a1, rv a2, .unset] []) s1 EF := fun t k => pre5 t (XS.icmpNo X0.here hx rfl (B d0_4) rfl (teq (by decide : (9 : Int32) = (9 : Int32))).2 k)
  have pre7 : Go p e bl s1 (mkF m 11 #[rv a1, rv a2, iv 0] [(.ref a1), (.int 0)]) s1 EF := fun t k => pre6 t (by
   refine XS.iconst X0.here hx rfl (B d0_7) ?_
   refine XS.istoreN X0.here hx rfl (B d0_8) rfl (l' := #[rv a1, rv a2, iv 0]) rfl ?_
   refine XS.iloadN X0.here hx rfl (B d0_9) rfl ?_
   exact XS.aloadN X0.here hx rfl (B d0_10) rfl rfl k)
  obtain ⟨cl8, Ar8, q8, Sz8, M8, H8, G8⟩ := id V1
  have pre9 : Go p e bl s1 (mkF m 12 #[rv a1, rv a2, iv 0] [(.int 9), (.int 0)]) s1 EF := fun t k => pre7 t (by
   refine X0.arraylength hx (hp e0 Ar8) (State.isArrayOf_alike hZ.alike Ar8.2.1) (g := (mkF m 11 #[rv a1, rv a2, iv 0] [(.ref a1), (.int 0)])) rfl rfl (B d0_11) _ ?_
   rw [len_of Sz8 M8]
   exact k)
  have pre10 : Go p e bl s1 (mkF m 15 #[rv a1, rv a2, iv 0] []) s1 EF := fun t k => pre9 t (XS.icmpNo X0.here hx rfl (B d0_12) rfl (tlt (by decide : (0 : Int32) < (9 : Int32))).2.1 k)
  have pre11 : Go p e bl s1 (mkF m 17 #[rv a1, rv a2, iv 0] [(.int 0), (.ref a1)]) s1 EF := fun t k => pre10 t (by
   refine XS.aloadN X0.here hx rfl (B d0_15) rfl rfl ?_
   exact XS.iloadN X0.here hx rfl (B d0_16) rfl k)
  obtain ⟨cl12, Ar12, q12, Sz12, M12, H12, G12⟩ := id V1
  have hin12 := inb_of (j := (0 : Int32)) Sz12 ⟨by decide, by decide⟩
  have hat12 := Has.at (v := (.int u0)) H12 hin12 rfl
  have pre13 : Go p e bl s1 (mkF m 20 #[rv a1, rv a2, iv 0] [(.int 0), (.ref a2), (.int u0)]) s1 EF := fun t k => pre11 t (by
   refine X0.baloadBytes hx (j := 0) (v := (.int u0)) (hp e0 Ar12) (State.isArrayOf_alike hZ.alike Ar12.2.1) Ar12.2.2 hin12 hat12 (g := (mkF m 17 #[rv a1, rv a2, iv 0] [(.int 0), (.ref a1)])) rfl rfl (B d0_17) _ ?_
   refine XS.aloadN X0.here hx rfl (B d0_18) rfl rfl ?_
   exact XS.iloadN X0.here hx rfl (B d0_19) rfl k)
  obtain ⟨cl14, Ar14, q14, Sz14, M14, H14, G14⟩ := id V2
  have hin14 := inb_of (j := (0 : Int32)) Sz14 ⟨by decide, by decide⟩
  have hat14 := Has.at (v := (.int w0)) H14 hin14 rfl
  have pre15 : Go p e bl s1 (mkF m 21 #[rv a1, rv a2, iv 0] [(.int w0), (.int u0)]) s1 EF := fun t k => pre13 t (by
   exact X0.baloadBytes hx (j := 0) (v := (.int w0)) (hp e0 Ar14) (State.isArrayOf_alike hZ.alike Ar14.2.1) Ar14.2.2 hin14 hat14 (g := (mkF m 20 #[rv a1, rv a2, iv 0] [(.int 0), (.ref a2), (.int u0)])) rfl rfl (B d0_20) _ k)
  by_cases hc21 : u0 = w0
  · have pre16 : Go p e bl s1 (mkF m 26 #[rv a1, rv a2, iv 0] []) s1 EF := fun t k => pre15 t (XS.icmpYes X0.here hx rfl (pc0 := 21) (pc' := 26) rfl (B d0_21) rfl (teq hc21).1 (by decide) (by decide) k)
    have pre17 : Go p e bl s1 (mkF m 11 #[rv a1, rv a2, iv 1] [(.ref a1), (.int 1)]) s1 EF := fun t k => pre16 t (by
     refine XS.iinc X0.here hx rfl (B d0_26) rfl (l' := #[rv a1, rv a2, iv 1]) rfl ?_
     refine XS.goto X0.here hx rfl (pc0 := 29) (pc' := 9) rfl (B d0_29) (by decide) (by decide) ?_
     refine XS.iloadN X0.here hx rfl (B d0_9) rfl ?_
     exact XS.aloadN X0.here hx rfl (B d0_10) rfl rfl k)
    obtain ⟨cl18, Ar18, q18, Sz18, M18, H18, G18⟩ := id V1
    have pre19 : Go p e bl s1 (mkF m 12 #[rv a1, rv a2, iv 1] [(.int 9), (.int 1)]) s1 EF := fun t k => pre17 t (by
     refine X0.arraylength hx (hp e0 Ar18) (State.isArrayOf_alike hZ.alike Ar18.2.1) (g := (mkF m 11 #[rv a1, rv a2, iv 1] [(.ref a1), (.int 1)])) rfl rfl (B d0_11) _ ?_
     rw [len_of Sz18 M18]
     exact k)
    have pre20 : Go p e bl s1 (mkF m 15 #[rv a1, rv a2, iv 1] []) s1 EF := fun t k => pre19 t (XS.icmpNo X0.here hx rfl (B d0_12) rfl (tlt (by decide : (1 : Int32) < (9 : Int32))).2.1 k)
    have pre21 : Go p e bl s1 (mkF m 17 #[rv a1, rv a2, iv 1] [(.int 1), (.ref a1)]) s1 EF := fun t k => pre20 t (by
     refine XS.aloadN X0.here hx rfl (B d0_15) rfl rfl ?_
     exact XS.iloadN X0.here hx rfl (B d0_16) rfl k)
    obtain ⟨cl22, Ar22, q22, Sz22, M22, H22, G22⟩ := id V1
    have hin22 := inb_of (j := (1 : Int32)) Sz22 ⟨by decide, by decide⟩
    have hat22 := Has.at (v := (.int u1)) H22 hin22 rfl
    have pre23 : Go p e bl s1 (mkF m 20 #[rv a1, rv a2, iv 1] [(.int 1), (.ref a2), (.int u1)]) s1 EF := fun t k => pre21 t (by
     refine X0.baloadBytes hx (j := 1) (v := (.int u1)) (hp e0 Ar22) (State.isArrayOf_alike hZ.alike Ar22.2.1) Ar22.2.2 hin22 hat22 (g := (mkF m 17 #[rv a1, rv a2, iv 1] [(.int 1), (.ref a1)])) rfl rfl (B d0_17) _ ?_
     refine XS.aloadN X0.here hx rfl (B d0_18) rfl rfl ?_
     exact XS.iloadN X0.here hx rfl (B d0_19) rfl k)
    obtain ⟨cl24, Ar24, q24, Sz24, M24, H24, G24⟩ := id V2
    have hin24 := inb_of (j := (1 : Int32)) Sz24 ⟨by decide, by decide⟩
    have hat24 := Has.at (v := (.int w1)) H24 hin24 rfl
    have pre25 : Go p e bl s1 (mkF m 21 #[rv a1, rv a2, iv 1] [(.int w1), (.int u1)]) s1 EF := fun t k => pre23 t (by
     exact X0.baloadBytes hx (j := 1) (v := (.int w1)) (hp e0 Ar24) (State.isArrayOf_alike hZ.alike Ar24.2.1) Ar24.2.2 hin24 hat24 (g := (mkF m 20 #[rv a1, rv a2, iv 1] [(.int 1), (.ref a2), (.int u1)])) rfl rfl (B d0_20) _ k)
    by_cases hc21' : u1 = w1
    · have pre26 : Go p e bl s1 (mkF m 26 #[rv a1, rv a2, iv 1] []) s1 EF := fun t k => pre25 t (XS.icmpYes X0.here hx rfl (pc0 := 21) (pc' := 26) rfl (B d0_21) rfl (teq hc21').1 (by decide) (by decide) k)
      have pre27 : Go p e bl s1 (mkF m 11 #[rv a1, rv a2, iv 2] [(.ref a1), (.int 2)]) s1 EF := fun t k => pre26 t (by
       refine XS.iinc X0.here hx rfl (B d0_26) rfl (l' := #[rv a1, rv a2, iv 2]) rfl ?_
       refine XS.goto X0.here hx rfl (pc0 := 29) (pc' := 9) rfl (B d0_29) (by decide) (by decide) ?_
       refine XS.iloadN X0.here hx rfl (B d0_9) rfl ?_
       exact XS.aloadN X0.here hx rfl (B d0_10) rfl rfl k)
      obtain ⟨cl28, Ar28, q28, Sz28, M28, H28, G28⟩ := id V1
      have pre29 : Go p e bl s1 (mkF m 12 #[rv a1, rv a2, iv 2] [(.int 9), (.int 2)]) s1 EF := fun t k => pre27 t (by
       refine X0.arraylength hx (hp e0 Ar28) (State.isArrayOf_alike hZ.alike Ar28.2.1) (g := (mkF m 11 #[rv a1, rv a2, iv 2] [(.ref a1), (.int 2)])) rfl rfl (B d0_11) _ ?_
       rw [len_of Sz28 M28]
       exact k)
      have pre30 : Go p e bl s1 (mkF m 15 #[rv a1, rv a2, iv 2] []) s1 EF := fun t k => pre29 t (XS.icmpNo X0.here hx rfl (B d0_12) rfl (tlt (by decide : (2 : Int32) < (9 : Int32))).2.1 k)
      have pre31 : Go p e bl s1 (mkF m 17 #[rv a1, rv a2, iv 2] [(.int 2), (.ref a1)]) s1 EF := fun t k => pre30 t (by
       refine XS.aloadN X0.here hx rfl (B d0_15) rfl rfl ?_
       exact XS.iloadN X0.here hx rfl (B d0_16) rfl k)
      obtain ⟨cl32, Ar32, q32, Sz32, M32, H32, G32⟩ := id V1
      have hin32 := inb_of (j := (2 : Int32)) Sz32 ⟨by decide, by decide⟩
      have hat32 := Has.at (v := (.int u2)) H32 hin32 rfl
      have pre33 : Go p e bl s1 (mkF m 20 #[rv a1, rv a2, iv 2] [(.int 2), (.ref a2), (.int u2)]) s1 EF := fun t k => pre31 t (by
       refine X0.baloadBytes hx (j := 2) (v := (.int u2)) (hp e0 Ar32) (State.isArrayOf_alike hZ.alike Ar32.2.1) Ar32.2.2 hin32 hat32 (g := (mkF m 17 #[rv a1, rv a2, iv 2] [(.int 2), (.ref a1)])) rfl rfl (B d0_17) _ ?_
       refine XS.aloadN X0.here hx rfl (B d0_18) rfl rfl ?_
       exact XS.iloadN X0.here hx rfl (B d0_19) rfl k)
      obtain ⟨cl34, Ar34, q34, Sz34, M34, H34, G34⟩ := id V2
      have hin34 := inb_of (j := (2 : Int32)) Sz34 ⟨by decide, by decide⟩
      have hat34 := Has.at (v := (.int w2)) H34 hin34 rfl
      have pre35 : Go p e bl s1 (mkF m 21 #[rv a1, rv a2, iv 2] [(.int w2), (.int u2)]) s1 EF := fun t k => pre33 t (by
       exact X0.baloadBytes hx (j := 2) (v := (.int w2)) (hp e0 Ar34) (State.isArrayOf_alike hZ.alike Ar34.2.1) Ar34.2.2 hin34 hat34 (g := (mkF m 20 #[rv a1, rv a2, iv 2] [(.int 2), (.ref a2), (.int u2)])) rfl rfl (B d0_20) _ k)
      by_cases hc21'' : u2 = w2
      · have pre36 : Go p e bl s1 (mkF m 26 #[rv a1, rv a2, iv 2] []) s1 EF := fun t k => pre35 t (XS.icmpYes X0.here hx rfl (pc0 := 21) (pc' := 26) rfl (B d0_21) rfl (teq hc21'').1 (by decide) (by decide) k)
        have pre37 : Go p e bl s1 (mkF m 11 #[rv a1, rv a2, iv 3] [(.ref a1), (.int 3)]) s1 EF := fun t k => pre36 t (by
         refine XS.iinc X0.here hx rfl (B d0_26) rfl (l' := #[rv a1, rv a2, iv 3]) rfl ?_
         refine XS.goto X0.here hx rfl (pc0 := 29) (pc' := 9) rfl (B d0_29) (by decide) (by decide) ?_
         refine XS.iloadN X0.here hx rfl (B d0_9) rfl ?_
         exact XS.aloadN X0.here hx rfl (B d0_10) rfl rfl k)
        obtain ⟨cl38, Ar38, q38, Sz38, M38, H38, G38⟩ := id V1
        have pre39 : Go p e bl s1 (mkF m 12 #[rv a1, rv a2, iv 3] [(.int 9), (.int 3)]) s1 EF := fun t k => pre37 t (by
         refine X0.arraylength hx (hp e0 Ar38) (State.isArrayOf_alike hZ.alike Ar38.2.1) (g := (mkF m 11 #[rv a1, rv a2, iv 3] [(.ref a1), (.int 3)])) rfl rfl (B d0_11) _ ?_
         rw [len_of Sz38 M38]
         exact k)
        have pre40 : Go p e bl s1 (mkF m 15 #[rv a1, rv a2, iv 3] []) s1 EF := fun t k => pre39 t (XS.icmpNo X0.here hx rfl (B d0_12) rfl (tlt (by decide : (3 : Int32) < (9 : Int32))).2.1 k)
        have pre41 : Go p e bl s1 (mkF m 17 #[rv a1, rv a2, iv 3] [(.int 3), (.ref a1)]) s1 EF := fun t k => pre40 t (by
         refine XS.aloadN X0.here hx rfl (B d0_15) rfl rfl ?_
         exact XS.iloadN X0.here hx rfl (B d0_16) rfl k)
        obtain ⟨cl42, Ar42, q42, Sz42, M42, H42, G42⟩ := id V1
        have hin42 := inb_of (j := (3 : Int32)) Sz42 ⟨by decide, by decide⟩
        have hat42 := Has.at (v := (.int u3)) H42 hin42 rfl
        have pre43 : Go p e bl s1 (mkF m 20 #[rv a1, rv a2, iv 3] [(.int 3), (.ref a2), (.int u3)]) s1 EF := fun t k => pre41 t (by
         refine X0.baloadBytes hx (j := 3) (v := (.int u3)) (hp e0 Ar42) (State.isArrayOf_alike hZ.alike Ar42.2.1) Ar42.2.2 hin42 hat42 (g := (mkF m 17 #[rv a1, rv a2, iv 3] [(.int 3), (.ref a1)])) rfl rfl (B d0_17) _ ?_
         refine XS.aloadN X0.here hx rfl (B d0_18) rfl rfl ?_
         exact XS.iloadN X0.here hx rfl (B d0_19) rfl k)
        obtain ⟨cl44, Ar44, q44, Sz44, M44, H44, G44⟩ := id V2
        have hin44 := inb_of (j := (3 : Int32)) Sz44 ⟨by decide, by decide⟩
        have hat44 := Has.at (v := (.int w3)) H44 hin44 rfl
        have pre45 : Go p e bl s1 (mkF m 21 #[rv a1, rv a2, iv 3] [(.int w3), (.int u3)]) s1 EF := fun t k => pre43 t (by
         exact X0.baloadBytes hx (j := 3) (v := (.int w3)) (hp e0 Ar44) (State.isArrayOf_alike hZ.alike Ar44.2.1) Ar44.2.2 hin44 hat44 (g := (mkF m 20 #[rv a1, rv a2, iv 3] [(.int 3), (.ref a2), (.int u3)])) rfl rfl (B d0_20) _ k)
        by_cases hc21''' : u3 = w3
        · have pre46 : Go p e bl s1 (mkF m 26 #[rv a1, rv a2, iv 3] []) s1 EF := fun t k => pre45 t (XS.icmpYes X0.here hx rfl (pc0 := 21) (pc' := 26) rfl (B d0_21) rfl (teq hc21''').1 (by decide) (by decide) k)
          have pre47 : Go p e bl s1 (mkF m 11 #[rv a1, rv a2, iv 4] [(.ref a1), (.int 4)]) s1 EF := fun t k => pre46 t (by
           refine XS.iinc X0.here hx rfl (B d0_26) rfl (l' := #[rv a1, rv a2, iv 4]) rfl ?_
           refine XS.goto X0.here hx rfl (pc0 := 29) (pc' := 9) rfl (B d0_29) (by decide) (by decide) ?_
           refine XS.iloadN X0.here hx rfl (B d0_9) rfl ?_
           exact XS.aloadN X0.here hx rfl (B d0_10) rfl rfl k)
          obtain ⟨cl48, Ar48, q48, Sz48, M48, H48, G48⟩ := id V1
          have pre49 : Go p e bl s1 (mkF m 12 #[rv a1, rv a2, iv 4] [(.int 9), (.int 4)]) s1 EF := fun t k => pre47 t (by
           refine X0.arraylength hx (hp e0 Ar48) (State.isArrayOf_alike hZ.alike Ar48.2.1) (g := (mkF m 11 #[rv a1, rv a2, iv 4] [(.ref a1), (.int 4)])) rfl rfl (B d0_11) _ ?_
           rw [len_of Sz48 M48]
           exact k)
          have pre50 : Go p e bl s1 (mkF m 15 #[rv a1, rv a2, iv 4] []) s1 EF := fun t k => pre49 t (XS.icmpNo X0.here hx rfl (B d0_12) rfl (tlt (by decide : (4 : Int32) < (9 : Int32))).2.1 k)
          have pre51 : Go p e bl s1 (mkF m 17 #[rv a1, rv a2, iv 4] [(.int 4), (.ref a1)]) s1 EF := fun t k => pre50 t (by
           refine XS.aloadN X0.here hx rfl (B d0_15) rfl rfl ?_
           exact XS.iloadN X0.here hx rfl (B d0_16) rfl k)
          obtain ⟨cl52, Ar52, q52, Sz52, M52, H52, G52⟩ := id V1
          have hin52 := inb_of (j := (4 : Int32)) Sz52 ⟨by decide, by decide⟩
          have hat52 := Has.at (v := (.int u4)) H52 hin52 rfl
          have pre53 : Go p e bl s1 (mkF m 20 #[rv a1, rv a2, iv 4] [(.int 4), (.ref a2), (.int u4)]) s1 EF := fun t k => pre51 t (by
           refine X0.baloadBytes hx (j := 4) (v := (.int u4)) (hp e0 Ar52) (State.isArrayOf_alike hZ.alike Ar52.2.1) Ar52.2.2 hin52 hat52 (g := (mkF m 17 #[rv a1, rv a2, iv 4] [(.int 4), (.ref a1)])) rfl rfl (B d0_17) _ ?_
           refine XS.aloadN X0.here hx rfl (B d0_18) rfl rfl ?_
           exact XS.iloadN X0.here hx rfl (B d0_19) rfl k)
          obtain ⟨cl54, Ar54, q54, Sz54, M54, H54, G54⟩ := id V2
          have hin54 := inb_of (j := (4 : Int32)) Sz54 ⟨by decide, by decide⟩
          have hat54 := Has.at (v := (.int w4)) H54 hin54 rfl
          have pre55 : Go p e bl s1 (mkF m 21 #[rv a1, rv a2, iv 4] [(.int w4), (.int u4)]) s1 EF := fun t k => pre53 t (by
           exact X0.baloadBytes hx (j := 4) (v := (.int w4)) (hp e0 Ar54) (State.isArrayOf_alike hZ.alike Ar54.2.1) Ar54.2.2 hin54 hat54 (g := (mkF m 20 #[rv a1, rv a2, iv 4] [(.int 4), (.ref a2), (.int u4)])) rfl rfl (B d0_20) _ k)
          by_cases hc21'''' : u4 = w4
          · have pre56 : Go p e bl s1 (mkF m 26 #[rv a1, rv a2, iv 4] []) s1 EF := fun t k => pre55 t (XS.icmpYes X0.here hx rfl (pc0 := 21) (pc' := 26) rfl (B d0_21) rfl (teq hc21'''').1 (by decide) (by decide) k)
            have pre57 : Go p e bl s1 (mkF m 11 #[rv a1, rv a2, iv 5] [(.ref a1), (.int 5)]) s1 EF := fun t k => pre56 t (by
             refine XS.iinc X0.here hx rfl (B d0_26) rfl (l' := #[rv a1, rv a2, iv 5]) rfl ?_
             refine XS.goto X0.here hx rfl (pc0 := 29) (pc' := 9) rfl (B d0_29) (by decide) (by decide) ?_
             refine XS.iloadN X0.here hx rfl (B d0_9) rfl ?_
             exact XS.aloadN X0.here hx rfl (B d0_10) rfl rfl k)
            obtain ⟨cl58, Ar58, q58, Sz58, M58, H58, G58⟩ := id V1
            have pre59 : Go p e bl s1 (mkF m 12 #[rv a1, rv a2, iv 5] [(.int 9), (.int 5)]) s1 EF := fun t k => pre57 t (by
             refine X0.arraylength hx (hp e0 Ar58) (State.isArrayOf_alike hZ.alike Ar58.2.1) (g := (mkF m 11 #[rv a1, rv a2, iv 5] [(.ref a1), (.int 5)])) rfl rfl (B d0_11) _ ?_
             rw [len_of Sz58 M58]
             exact k)
            have pre60 : Go p e bl s1 (mkF m 15 #[rv a1, rv a2, iv 5] []) s1 EF := fun t k => pre59 t (XS.icmpNo X0.here hx rfl (B d0_12) rfl (tlt (by decide : (5 : Int32) < (9 : Int32))).2.1 k)
            have pre61 : Go p e bl s1 (mkF m 17 #[rv a1, rv a2, iv 5] [(.int 5), (.ref a1)]) s1 EF := fun t k => pre60 t (by
             refine XS.aloadN X0.here hx rfl (B d0_15) rfl rfl ?_
             exact XS.iloadN X0.here hx rfl (B d0_16) rfl k)
            obtain ⟨cl62, Ar62, q62, Sz62, M62, H62, G62⟩ := id V1
            have hin62 := inb_of (j := (5 : Int32)) Sz62 ⟨by decide, by decide⟩
            have hat62 := Has.at (v := (.int u5)) H62 hin62 rfl
            have pre63 : Go p e bl s1 (mkF m 20 #[rv a1, rv a2, iv 5] [(.int 5), (.ref a2), (.int u5)]) s1 EF := fun t k => pre61 t (by
             refine X0.baloadBytes hx (j := 5) (v := (.int u5)) (hp e0 Ar62) (State.isArrayOf_alike hZ.alike Ar62.2.1) Ar62.2.2 hin62 hat62 (g := (mkF m 17 #[rv a1, rv a2, iv 5] [(.int 5), (.ref a1)])) rfl rfl (B d0_17) _ ?_
             refine XS.aloadN X0.here hx rfl (B d0_18) rfl rfl ?_
             exact XS.iloadN X0.here hx rfl (B d0_19) rfl k)
            obtain ⟨cl64, Ar64, q64, Sz64, M64, H64, G64⟩ := id V2
            have hin64 := inb_of (j := (5 : Int32)) Sz64 ⟨by decide, by decide⟩
            have hat64 := Has.at (v := (.int w5)) H64 hin64 rfl
            have pre65 : Go p e bl s1 (mkF m 21 #[rv a1, rv a2, iv 5] [(.int w5), (.int u5)]) s1 EF := fun t k => pre63 t (by
             exact X0.baloadBytes hx (j := 5) (v := (.int w5)) (hp e0 Ar64) (State.isArrayOf_alike hZ.alike Ar64.2.1) Ar64.2.2 hin64 hat64 (g := (mkF m 20 #[rv a1, rv a2, iv 5] [(.int 5), (.ref a2), (.int u5)])) rfl rfl (B d0_20) _ k)
            by_cases hc21''''' : u5 = w5
            · have pre66 : Go p e bl s1 (mkF m 26 #[rv a1, rv a2, iv 5] []) s1 EF := fun t k => pre65 t (XS.icmpYes X0.here hx rfl (pc0 := 21) (pc' := 26) rfl (B d0_21) rfl (teq hc21''''').1 (by decide) (by decide) k)
              have pre67 : Go p e bl s1 (mkF m 11 #[rv a1, rv a2, iv 6] [(.ref a1), (.int 6)]) s1 EF := fun t k => pre66 t (by
               refine XS.iinc X0.here hx rfl (B d0_26) rfl (l' := #[rv a1, rv a2, iv 6]) rfl ?_
               refine XS.goto X0.here hx rfl (pc0 := 29) (pc' := 9) rfl (B d0_29) (by decide) (by decide) ?_
               refine XS.iloadN X0.here hx rfl (B d0_9) rfl ?_
               exact XS.aloadN X0.here hx rfl (B d0_10) rfl rfl k)
              obtain ⟨cl68, Ar68, q68, Sz68, M68, H68, G68⟩ := id V1
              have pre69 : Go p e bl s1 (mkF m 12 #[rv a1, rv a2, iv 6] [(.int 9), (.int 6)]) s1 EF := fun t k => pre67 t (by
               refine X0.arraylength hx (hp e0 Ar68) (State.isArrayOf_alike hZ.alike Ar68.2.1) (g := (mkF m 11 #[rv a1, rv a2, iv 6] [(.ref a1), (.int 6)])) rfl rfl (B d0_11) _ ?_
               rw [len_of Sz68 M68]
               exact k)
              have pre70 : Go p e bl s1 (mkF m 15 #[rv a1, rv a2, iv 6] []) s1 EF := fun t k => pre69 t (XS.icmpNo X0.here hx rfl (B d0_12) rfl (tlt (by decide : (6 : Int32) < (9 : Int32))).2.1 k)
              have pre71 : Go p e bl s1 (mkF m 17 #[rv a1, rv a2, iv 6] [(.int 6), (.ref a1)]) s1 EF := fun t k => pre70 t (by
               refine XS.aloadN X0.here hx rfl (B d0_15) rfl rfl ?_
               exact XS.iloadN X0.here hx rfl (B d0_16) rfl k)
              obtain ⟨cl72, Ar72, q72, Sz72, M72, H72, G72⟩ := id V1
              have hin72 := inb_of (j := (6 : Int32)) Sz72 ⟨by decide, by decide⟩
              have hat72 := Has.at (v := (.int u6)) H72 hin72 rfl
              have pre73 : Go p e bl s1 (mkF m 20 #[rv a1, rv a2, iv 6] [(.int 6), (.ref a2), (.int u6)]) s1 EF := fun t k => pre71 t (by
               refine X0.baloadBytes hx (j := 6) (v := (.int u6)) (hp e0 Ar72) (State.isArrayOf_alike hZ.alike Ar72.2.1) Ar72.2.2 hin72 hat72 (g := (mkF m 17 #[rv a1, rv a2, iv 6] [(.int 6), (.ref a1)])) rfl rfl (B d0_17) _ ?_
               refine XS.aloadN X0.here hx rfl (B d0_18) rfl rfl ?_
               exact XS.iloadN X0.here hx rfl (B d0_19) rfl k)
              obtain ⟨cl74, Ar74, q74, Sz74, M74, H74, G74⟩ := id V2
              have hin74 := inb_of (j := (6 : Int32)) Sz74 ⟨by decide, by decide⟩
              have hat74 := Has.at (v := (.int w6)) H74 hin74 rfl
              have pre75 : Go p e bl s1 (mkF m 21 #[rv a1, rv a2, iv 6] [(.int w6), (.int u6)]) s1 EF := fun t k => pre73 t (by
               exact X0.baloadBytes hx (j := 6) (v := (.int w6)) (hp e0 Ar74) (State.isArrayOf_alike hZ.alike Ar74.2.1) Ar74.2.2 hin74 hat74 (g := (mkF m 20 #[rv a1, rv a2, iv 6] [(.int 6), (.ref a2), (.int u6)])) rfl rfl (B d0_20) _ k)
              by_cases hc21'''''' : u6 = w6
              · have pre76 : Go p e bl s1 (mkF m 26 #[rv a1, rv a2, iv 6] []) s1 EF := fun t k => pre75 t (XS.icmpYes X0.here hx rfl (pc0 := 21) (pc' := 26) rfl (B d0_21) rfl (teq hc21'''''').1 (by decide) (by decide) k)
                have pre77 : Go p e bl s1 (mkF m 11 #[rv a1, rv a2, iv 7] [(.ref a1), (.int 7)]) s1 EF := fun t k => pre76 t (by
                 refine XS.iinc X0.here hx rfl (B d0_26) rfl (l' := #[rv a1, rv a2, iv 7]) rfl ?_
                 refine XS.goto X0.here hx rfl (pc0 := 29) (pc' := 9) rfl (B d0_29) (by decide) (by decide) ?_
                 refine XS.iloadN X0.here hx rfl (B d0_9) rfl ?_
                 exact XS.aloadN X0.here hx rfl (B d0_10) rfl rfl k)
                obtain ⟨cl78, Ar78, q78, Sz78, M78, H78, G78⟩ := id V1
                have pre79 : Go p e bl s1 (mkF m 12 #[rv a1, rv a2, iv 7] [(.int 9), (.int 7)]) s1 EF := fun t k => pre77 t (by
                 refine X0.arraylength hx (hp e0 Ar78) (State.isArrayOf_alike hZ.alike Ar78.2.1) (g := (mkF m 11 #[rv a1, rv a2, iv 7] [(.ref a1), (.int 7)])) rfl rfl (B d0_11) _ ?_
                 rw [len_of Sz78 M78]
                 exact k)
                have pre80 : Go p e bl s1 (mkF m 15 #[rv a1, rv a2, iv 7] []) s1 EF := fun t k => pre79 t (XS.icmpNo X0.here hx rfl (B d0_12) rfl (tlt (by decide : (7 : Int32) < (9 : Int32))).2.1 k)
                have pre81 : Go p e bl s1 (mkF m 17 #[rv a1, rv a2, iv 7] [(.int 7), (.ref a1)]) s1 EF := fun t k => pre80 t (by
                 refine XS.aloadN X0.here hx rfl (B d0_15) rfl rfl ?_
                 exact XS.iloadN X0.here hx rfl (B d0_16) rfl k)
                obtain ⟨cl82, Ar82, q82, Sz82, M82, H82, G82⟩ := id V1
                have hin82 := inb_of (j := (7 : Int32)) Sz82 ⟨by decide, by decide⟩
                have hat82 := Has.at (v := (.int u7)) H82 hin82 rfl
                have pre83 : Go p e bl s1 (mkF m 20 #[rv a1, rv a2, iv 7] [(.int 7), (.ref a2), (.int u7)]) s1 EF := fun t k => pre81 t (by
                 refine X0.baloadBytes hx (j := 7) (v := (.int u7)) (hp e0 Ar82) (State.isArrayOf_alike hZ.alike Ar82.2.1) Ar82.2.2 hin82 hat82 (g := (mkF m 17 #[rv a1, rv a2, iv 7] [(.int 7), (.ref a1)])) rfl rfl (B d0_17) _ ?_
                 refine XS.aloadN X0.here hx rfl (B d0_18) rfl rfl ?_
                 exact XS.iloadN X0.here hx rfl (B d0_19) rfl k)
                obtain ⟨cl84, Ar84, q84, Sz84, M84, H84, G84⟩ := id V2
                have hin84 := inb_of (j := (7 : Int32)) Sz84 ⟨by decide, by decide⟩
                have hat84 := Has.at (v := (.int w7)) H84 hin84 rfl
                have pre85 : Go p e bl s1 (mkF m 21 #[rv a1, rv a2, iv 7] [(.int w7), (.int u7)]) s1 EF := fun t k => pre83 t (by
                 exact X0.baloadBytes hx (j := 7) (v := (.int w7)) (hp e0 Ar84) (State.isArrayOf_alike hZ.alike Ar84.2.1) Ar84.2.2 hin84 hat84 (g := (mkF m 20 #[rv a1, rv a2, iv 7] [(.int 7), (.ref a2), (.int u7)])) rfl rfl (B d0_20) _ k)
                by_cases hc21''''''' : u7 = w7
                · have pre86 : Go p e bl s1 (mkF m 26 #[rv a1, rv a2, iv 7] []) s1 EF := fun t k => pre85 t (XS.icmpYes X0.here hx rfl (pc0 := 21) (pc' := 26) rfl (B d0_21) rfl (teq hc21''''''').1 (by decide) (by decide) k)
                  have pre87 : Go p e bl s1 (mkF m 11 #[rv a1, rv a2, iv 8] [(.ref a1), (.int 8)]) s1 EF := fun t k => pre86 t (by
                   refine XS.iinc X0.here hx rfl (B d0_26) rfl (l' := #[rv a1, rv a2, iv 8]) rfl ?_
                   refine XS.goto X0.here hx rfl (pc0 := 29) (pc' := 9) rfl (B d0_29) (by decide) (by decide) ?_
                   refine XS.iloadN X0.here hx rfl (B d0_9) rfl ?_
                   exact XS.aloadN X0.here hx rfl (B d0_10) rfl rfl k)
                  obtain ⟨cl88, Ar88, q88, Sz88, M88, H88, G88⟩ := id V1
                  have pre89 : Go p e bl s1 (mkF m 12 #[rv a1, rv a2, iv 8] [(.int 9), (.int 8)]) s1 EF := fun t k => pre87 t (by
                   refine X0.arraylength hx (hp e0 Ar88) (State.isArrayOf_alike hZ.alike Ar88.2.1) (g := (mkF m 11 #[rv a1, rv a2, iv 8] [(.ref a1), (.int 8)])) rfl rfl (B d0_11) _ ?_
                   rw [len_of Sz88 M88]
                   exact k)
                  have pre90 : Go p e bl s1 (mkF m 15 #[rv a1, rv a2, iv 8] []) s1 EF := fun t k => pre89 t (XS.icmpNo X0.here hx rfl (B d0_12) rfl (tlt (by decide : (8 : Int32) < (9 : Int32))).2.1 k)
                  have pre91 : Go p e bl s1 (mkF m 17 #[rv a1, rv a2, iv 8] [(.int 8), (.ref a1)]) s1 EF := fun t k => pre90 t (by
                   refine XS.aloadN X0.here hx rfl (B d0_15) rfl rfl ?_
                   exact XS.iloadN X0.here hx rfl (B d0_16) rfl k)
                  obtain ⟨cl92, Ar92, q92, Sz92, M92, H92, G92⟩ := id V1
                  have hin92 := inb_of (j := (8 : Int32)) Sz92 ⟨by decide, by decide⟩
                  have hat92 := Has.at (v := (.int u8)) H92 hin92 rfl
                  have pre93 : Go p e bl s1 (mkF m 20 #[rv a1, rv a2, iv 8] [(.int 8), (.ref a2), (.int u8)]) s1 EF := fun t k => pre91 t (by
                   refine X0.baloadBytes hx (j := 8) (v := (.int u8)) (hp e0 Ar92) (State.isArrayOf_alike hZ.alike Ar92.2.1) Ar92.2.2 hin92 hat92 (g := (mkF m 17 #[rv a1, rv a2, iv 8] [(.int 8), (.ref a1)])) rfl rfl (B d0_17) _ ?_
                   refine XS.aloadN X0.here hx rfl (B d0_18) rfl rfl ?_
                   exact XS.iloadN X0.here hx rfl (B d0_19) rfl k)
                  obtain ⟨cl94, Ar94, q94, Sz94, M94, H94, G94⟩ := id V2
                  have hin94 := inb_of (j := (8 : Int32)) Sz94 ⟨by decide, by decide⟩
                  have hat94 := Has.at (v := (.int w8)) H94 hin94 rfl
                  have pre95 : Go p e bl s1 (mkF m 21 #[rv a1, rv a2, iv 8] [(.int w8), (.int u8)]) s1 EF := fun t k => pre93 t (by
                   exact X0.baloadBytes hx (j := 8) (v := (.int w8)) (hp e0 Ar94) (State.isArrayOf_alike hZ.alike Ar94.2.1) Ar94.2.2 hin94 hat94 (g := (mkF m 20 #[rv a1, rv a2, iv 8] [(.int 8), (.ref a2), (.int u8)])) rfl rfl (B d0_20) _ k)
                  by_cases hc21'''''''' : u8 = w8
                  · have pre96 : Go p e bl s1 (mkF m 26 #[rv a1, rv a2, iv 8] []) s1 EF := fun t k => pre95 t (XS.icmpYes X0.here hx rfl (pc0 := 21) (pc' := 26) rfl (B d0_21) rfl (teq hc21'''''''').1 (by decide) (by decide) k)
                    have pre97 : Go p e bl s1 (mkF m 11 #[rv a1, rv a2, iv 9] [(.ref a1), (.int 9)]) s1 EF := fun t k => pre96 t (by
                     refine XS.iinc X0.here hx rfl (B d0_26) rfl (l' := #[rv a1, rv a2, iv 9]) rfl ?_
                     refine XS.goto X0.here hx rfl (pc0 := 29) (pc' := 9) rfl (B d0_29) (by decide) (by decide) ?_
                     refine XS.iloadN X0.here hx rfl (B d0_9) rfl ?_
                     exact XS.aloadN X0.here hx rfl (B d0_10) rfl rfl k)
                    obtain ⟨cl98, Ar98, q98, Sz98, M98, H98, G98⟩ := id V1
                    have pre99 : Go p e bl s1 (mkF m 12 #[rv a1, rv a2, iv 9] [(.int 9), (.int 9)]) s1 EF := fun t k => pre97 t (by
                     refine X0.arraylength hx (hp e0 Ar98) (State.isArrayOf_alike hZ.alike Ar98.2.1) (g := (mkF m 11 #[rv a1, rv a2, iv 9] [(.ref a1), (.int 9)])) rfl rfl (B d0_11) _ ?_
                     rw [len_of Sz98 M98]
                     exact k)
                    have pre100 : Go p e bl s1 (mkF m 32 #[rv a1, rv a2, iv 9] []) s1 EF := fun t k => pre99 t (XS.icmpYes X0.here hx rfl (pc0 := 12) (pc' := 32) rfl (B d0_12) rfl (flt (by decide : ¬ ((9 : Int32) < (9 : Int32)))).2.1 (by decide) (by decide) k)
                    have pre101 : Go p e bl s1 (mkF m 33 #[rv a1, rv a2, iv 9] [(.int 1)]) s1 EF := fun t k => pre100 t (by
                     exact XS.iconst X0.here hx rfl (B d0_32) k)
                    have hnr : Value.int (nar .boolean (1 : Int32)) = (.int 1) := by rfl
                    exact fin1 X0 (v := some (.int 1)) hrt hlk (wl rfl) (wl rfl) (by rw [e0]; exact ⟨by rw [← hR]; simp [eqB, hc21, hc21', hc21'', hc21''', hc21'''', hc21''''', hc21'''''', hc21''''''', hc21''''''''], N0, rfl⟩) (fun fs hr => hEF ▸ pre101 _ (retN X0 hx (t := .boolean) Bd.returns (by simp) (B d0_33) (hnr ▸ hr)))
                  have pre102 : Go p e bl s1 (mkF m 24 #[rv a1, rv a2, iv 8] []) s1 EF := fun t k => pre95 t (XS.icmpNo X0.here hx rfl (B d0_21) rfl (feq hc21'''''''').1 k)
                  have pre103 : Go p e bl s1 (mkF m 25 #[rv a1, rv a2, iv 8] [(.int 0)]) s1 EF := fun t k => pre102 t (by
                   exact XS.iconst X0.here hx rfl (B d0_24) k)
                  have hnr : Value.int (nar .boolean (0 : Int32)) = (.int 0) := by rfl
                  exact fin1 X0 (v := some (.int 0)) hrt hlk (wl rfl) (wl rfl) (by rw [e0]; exact ⟨by rw [← hR]; simp [eqB, hc21, hc21', hc21'', hc21''', hc21'''', hc21''''', hc21'''''', hc21''''''', hc21''''''''], N0, rfl⟩) (fun fs hr => hEF ▸ pre103 _ (retN X0 hx (t := .boolean) Bd.returns (by simp) (B d0_25) (hnr ▸ hr)))
                have pre104 : Go p e bl s1 (mkF m 24 #[rv a1, rv a2, iv 7] []) s1 EF := fun t k => pre85 t (XS.icmpNo X0.here hx rfl (B d0_21) rfl (feq hc21''''''').1 k)
                have pre105 : Go p e bl s1 (mkF m 25 #[rv a1, rv a2, iv 7] [(.int 0)]) s1 EF := fun t k => pre104 t (by
                 exact XS.iconst X0.here hx rfl (B d0_24) k)
                have hnr : Value.int (nar .boolean (0 : Int32)) = (.int 0) := by rfl
                exact fin1 X0 (v := some (.int 0)) hrt hlk (wl rfl) (wl rfl) (by rw [e0]; exact ⟨by rw [← hR]; simp [eqB, hc21, hc21', hc21'', hc21''', hc21'''', hc21''''', hc21'''''', hc21'''''''], N0, rfl⟩) (fun fs hr => hEF ▸ pre105 _ (retN X0 hx (t := .boolean) Bd.returns (by simp) (B d0_25) (hnr ▸ hr)))
              have pre106 : Go p e bl s1 (mkF m 24 #[rv a1, rv a2, iv 6] []) s1 EF := fun t k => pre75 t (XS.icmpNo X0.here hx rfl (B d0_21) rfl (feq hc21'''''').1 k)
              have pre107 : Go p e bl s1 (mkF m 25 #[rv a1, rv a2, iv 6] [(.int 0)]) s1 EF := fun t k => pre106 t (by
               exact XS.iconst X0.here hx rfl (B d0_24) k)
              have hnr : Value.int (nar .boolean (0 : Int32)) = (.int 0) := by rfl
              exact fin1 X0 (v := some (.int 0)) hrt hlk (wl rfl) (wl rfl) (by rw [e0]; exact ⟨by rw [← hR]; simp [eqB, hc21, hc21', hc21'', hc21''', hc21'''', hc21''''', hc21''''''], N0, rfl⟩) (fun fs hr => hEF ▸ pre107 _ (retN X0 hx (t := .boolean) Bd.returns (by simp) (B d0_25) (hnr ▸ hr)))
            have pre108 : Go p e bl s1 (mkF m 24 #[rv a1, rv a2, iv 5] []) s1 EF := fun t k => pre65 t (XS.icmpNo X0.here hx rfl (B d0_21) rfl (feq hc21''''').1 k)
            have pre109 : Go p e bl s1 (mkF m 25 #[rv a1, rv a2, iv 5] [(.int 0)]) s1 EF := fun t k => pre108 t (by
             exact XS.iconst X0.here hx rfl (B d0_24) k)
            have hnr : Value.int (nar .boolean (0 : Int32)) = (.int 0) := by rfl
            exact fin1 X0 (v := some (.int 0)) hrt hlk (wl rfl) (wl rfl) (by rw [e0]; exact ⟨by rw [← hR]; simp [eqB, hc21, hc21', hc21'', hc21''', hc21'''', hc21'''''], N0, rfl⟩) (fun fs hr => hEF ▸ pre109 _ (retN X0 hx (t := .boolean) Bd.returns (by simp) (B d0_25) (hnr ▸ hr)))
          have pre110 : Go p e bl s1 (mkF m 24 #[rv a1, rv a2, iv 4] []) s1 EF := fun t k => pre55 t (XS.icmpNo X0.here hx rfl (B d0_21) rfl (feq hc21'''').1 k)
          have pre111 : Go p e bl s1 (mkF m 25 #[rv a1, rv a2, iv 4] [(.int 0)]) s1 EF := fun t k => pre110 t (by
           exact XS.iconst X0.here hx rfl (B d0_24) k)
          have hnr : Value.int (nar .boolean (0 : Int32)) = (.int 0) := by rfl
          exact fin1 X0 (v := some (.int 0)) hrt hlk (wl rfl) (wl rfl) (by rw [e0]; exact ⟨by rw [← hR]; simp [eqB, hc21, hc21', hc21'', hc21''', hc21''''], N0, rfl⟩) (fun fs hr => hEF ▸ pre111 _ (retN X0 hx (t := .boolean) Bd.returns (by simp) (B d0_25) (hnr ▸ hr)))
        have pre112 : Go p e bl s1 (mkF m 24 #[rv a1, rv a2, iv 3] []) s1 EF := fun t k => pre45 t (XS.icmpNo X0.here hx rfl (B d0_21) rfl (feq hc21''').1 k)
        have pre113 : Go p e bl s1 (mkF m 25 #[rv a1, rv a2, iv 3] [(.int 0)]) s1 EF := fun t k => pre112 t (by
         exact XS.iconst X0.here hx rfl (B d0_24) k)
        have hnr : Value.int (nar .boolean (0 : Int32)) = (.int 0) := by rfl
        exact fin1 X0 (v := some (.int 0)) hrt hlk (wl rfl) (wl rfl) (by rw [e0]; exact ⟨by rw [← hR]; simp [eqB, hc21, hc21', hc21'', hc21'''], N0, rfl⟩) (fun fs hr => hEF ▸ pre113 _ (retN X0 hx (t := .boolean) Bd.returns (by simp) (B d0_25) (hnr ▸ hr)))
      have pre114 : Go p e bl s1 (mkF m 24 #[rv a1, rv a2, iv 2] []) s1 EF := fun t k => pre35 t (XS.icmpNo X0.here hx rfl (B d0_21) rfl (feq hc21'').1 k)
      have pre115 : Go p e bl s1 (mkF m 25 #[rv a1, rv a2, iv 2] [(.int 0)]) s1 EF := fun t k => pre114 t (by
       exact XS.iconst X0.here hx rfl (B d0_24) k)
      have hnr : Value.int (nar .boolean (0 : Int32)) = (.int 0) := by rfl
      exact fin1 X0 (v := some (.int 0)) hrt hlk (wl rfl) (wl rfl) (by rw [e0]; exact ⟨by rw [← hR]; simp [eqB, hc21, hc21', hc21''], N0, rfl⟩) (fun fs hr => hEF ▸ pre115 _ (retN X0 hx (t := .boolean) Bd.returns (by simp) (B d0_25) (hnr ▸ hr)))
    have pre116 : Go p e bl s1 (mkF m 24 #[rv a1, rv a2, iv 1] []) s1 EF := fun t k => pre25 t (XS.icmpNo X0.here hx rfl (B d0_21) rfl (feq hc21').1 k)
    have pre117 : Go p e bl s1 (mkF m 25 #[rv a1, rv a2, iv 1] [(.int 0)]) s1 EF := fun t k => pre116 t (by
     exact XS.iconst X0.here hx rfl (B d0_24) k)
    have hnr : Value.int (nar .boolean (0 : Int32)) = (.int 0) := by rfl
    exact fin1 X0 (v := some (.int 0)) hrt hlk (wl rfl) (wl rfl) (by rw [e0]; exact ⟨by rw [← hR]; simp [eqB, hc21, hc21'], N0, rfl⟩) (fun fs hr => hEF ▸ pre117 _ (retN X0 hx (t := .boolean) Bd.returns (by simp) (B d0_25) (hnr ▸ hr)))
  have pre118 : Go p e bl s1 (mkF m 24 #[rv a1, rv a2, iv 0] []) s1 EF := fun t k => pre15 t (XS.icmpNo X0.here hx rfl (B d0_21) rfl (feq hc21).1 k)
  have pre119 : Go p e bl s1 (mkF m 25 #[rv a1, rv a2, iv 0] [(.int 0)]) s1 EF := fun t k => pre118 t (by
   exact XS.iconst X0.here hx rfl (B d0_24) k)
  have hnr : Value.int (nar .boolean (0 : Int32)) = (.int 0) := by rfl
  exact fin1 X0 (v := some (.int 0)) hrt hlk (wl rfl) (wl rfl) (by rw [e0]; exact ⟨by rw [← hR]; simp [eqB, hc21], N0, rfl⟩) (fun fs hr => hEF ▸ pre119 _ (retN X0 hx (t := .boolean) Bd.returns (by simp) (B d0_25) (hnr ▸ hr)))
theorem rmJE (l : Launch) (Z : State) (a0 : Array Value) (hw : HW a0 Z) (ws : List Jvm.Cond) (a1 a2 : Addr) (cz : Int32) (fv : Value) (k1 k2 : ClassId) (n1 n2 : Int32) (bs1 bs2 : List Int32) (r : Int32) (h0 : Heap) (n0 : Nat) (Z0 : n0 ≤ h0.size) (O0 : Old Z n0 h0) (J0 : Jd Z cz fv) (V1 : Arv Z h0 a1 k1 .byte n1 (BV bs1) (.int 0)) (V2 : Arv Z h0 a2 k2 .byte n2 (BV bs2) (.int 0)) (g1 : n1.toInt = bs1.length) (g2 : n2.toInt = bs2.length) (hL : bs1.length = bs2.length → bs1.length = 7 ∨ bs1.length = 9) (hR : eqB bs1 bs2 = r) :
    MF l Z mN0 jdk_43_method_13_code 3 (some .boolean) ws rKJE9 #[(.ref a1), (.ref a2)] h0 (QP r h0 n0) := by
  by_cases e : n1 = n2
  · have e' : bs1.length = bs2.length := by rw [e] at g1; omega
    rcases hL e' with h | h
    · obtain ⟨u0, u1, u2, u3, u4, u5, u6, rfl⟩ := own_l7 h
      obtain ⟨w0, w1, w2, w3, w4, w5, w6, rfl⟩ := own_l7 (e'.symm.trans h)
      obtain rfl : n1 = 7 := by rw [← Int32.toInt_inj, g1]; rfl
      subst e
      exact rmJE7 l Z a0 hw ws a1 a2 cz fv k1 k2 u0 u1 u2 u3 u4 u5 u6 w0 w1 w2 w3 w4 w5 w6 r h0 n0 Z0 O0 J0 V1 V2 hR
    · obtain ⟨u0, u1, u2, u3, u4, u5, u6, u7, u8, rfl⟩ := own_l9 h
      obtain ⟨w0, w1, w2, w3, w4, w5, w6, w7, w8, rfl⟩ := own_l9 (e'.symm.trans h)
      obtain rfl : n1 = 9 := by rw [← Int32.toInt_inj, g1]; rfl
      subst e
      exact rmJE9 l Z a0 hw ws a1 a2 cz fv k1 k2 u0 u1 u2 u3 u4 u5 u6 u7 u8 w0 w1 w2 w3 w4 w5 w6 w7 w8 r h0 n0 Z0 O0 J0 V1 V2 hR
  · obtain rfl : r = 0 := by rw [← hR]; exact own_ne _ _ (fun q => e (by rw [← Int32.toInt_inj, g1, g2, q]))
    exact rmJEn l Z a0 hw ws a1 a2 cz fv k1 k2 n1 n2 _ _ h0 n0 Z0 O0 J0 V1 V2 e
abbrev rKJed : Room := { frames := 1, cells := 0, slots := 0, locals := 14 }
theorem d1_0 : decode jdk_42_method_66_code 0 = .ok (.aload_n 0, 1) := by decide +kernel
theorem d1_1 : decode jdk_42_method_66_code 1 = .ok (.aload_n 1, 1) := by decide +kernel
theorem d1_2 : decode jdk_42_method_66_code 2 = .ok (.if_acmp .ne 5, 3) := by decide +kernel
theorem d1_7 : decode jdk_42_method_66_code 7 = .ok (.aload_n 1, 1) := by decide +kernel
theorem d1_8 : decode jdk_42_method_66_code 8 = .ok (.instanceof 10, 3) := by decide +kernel
theorem d1_11 : decode jdk_42_method_66_code 11 = .ok (.ifCond .eq 43, 3) := by decide +kernel
theorem d1_14 : decode jdk_42_method_66_code 14 = .ok (.aload_n 1, 1) := by decide +kernel
theorem d1_15 : decode jdk_42_method_66_code 15 = .ok (.checkcast 10, 3) := by decide +kernel
theorem d1_18 : decode jdk_42_method_66_code 18 = .ok (.astore_n 2, 1) := by decide +kernel
theorem d1_19 : decode jdk_42_method_66_code 19 = .ok (.getstatic 38, 3) := by decide +kernel
theorem d1_22 : decode jdk_42_method_66_code 22 = .ok (.ifCond .eq 14, 3) := by decide +kernel
theorem d1_25 : decode jdk_42_method_66_code 25 = .ok (.aload_n 0, 1) := by decide +kernel
theorem d1_26 : decode jdk_42_method_66_code 26 = .ok (.getfield 15, 3) := by decide +kernel
theorem d1_29 : decode jdk_42_method_66_code 29 = .ok (.aload_n 2, 1) := by decide +kernel
theorem d1_30 : decode jdk_42_method_66_code 30 = .ok (.getfield 15, 3) := by decide +kernel
theorem d1_33 : decode jdk_42_method_66_code 33 = .ok (.if_icmp .ne 21, 3) := by decide +kernel
theorem d1_36 : decode jdk_42_method_66_code 36 = .ok (.aload_n 0, 1) := by decide +kernel
theorem d1_37 : decode jdk_42_method_66_code 37 = .ok (.getfield 9, 3) := by decide +kernel
theorem d1_40 : decode jdk_42_method_66_code 40 = .ok (.aload_n 2, 1) := by decide +kernel
theorem d1_41 : decode jdk_42_method_66_code 41 = .ok (.getfield 9, 3) := by decide +kernel
theorem d1_44 : decode jdk_42_method_66_code 44 = .ok (.invokestatic 541, 3) := by decide +kernel
theorem d1_47 : decode jdk_42_method_66_code 47 = .ok (.ifCond .eq 7, 3) := by decide +kernel
theorem d1_50 : decode jdk_42_method_66_code 50 = .ok (.iconst 1, 1) := by decide +kernel
theorem d1_51 : decode jdk_42_method_66_code 51 = .ok (.goto 4, 3) := by decide +kernel
theorem d1_54 : decode jdk_42_method_66_code 54 = .ok (.iconst 0, 1) := by decide +kernel
theorem d1_55 : decode jdk_42_method_66_code 55 = .ok (.ireturn, 1) := by decide +kernel
theorem pn1 : plainName "java/lang/String" = true := by first | (simp [plainName, overriddenIn]; done) | decide +kernel
theorem pd0 : parseMethodDescriptor "([B[B)Z" = some ⟨[(.array .byte), (.array .byte)], some .boolean⟩ := by decide +kernel
theorem efJed (m : MethodId) (a1 : Addr) (a2 : Addr) : entryFrame m #[(.ref a1), (.ref a2)] 3 = mkF m 0 #[rv a1, rv a2, .unset] [] := by first | (simp [entryFrame, mkF, argsToLocals, Value.category]; done) | rfl
def QJed (Z : State) (a1 : Addr) (a2 : Addr) (cz : Int32) (fv : Value) (b1 : Addr) (k1 : ClassId) (n1 : Int32) (bs1 : List Int32) (hs1 : Int32) (hz1 : Int32) (b2 : Addr) (k2 : ClassId) (n2 : Int32) (bs2 : List Int32) (hs2 : Int32) (hz2 : Int32) (r : Int32) (h0 : Heap) (n0 : Nat) (v : Option Value) (h : Heap) (L : List Loc) : Prop := v = some (.int r) ∧ Fr n0 L ∧ h = h0
set_option maxRecDepth 65536 in
set_option maxHeartbeats 40000000 in
theorem rmJed (l : Launch) (Z : State) (a0 : Array Value) (hw : HW a0 Z) (ws : List Jvm.Cond) (a1 : Addr) (a2 : Addr) (cz : Int32) (fv : Value) (b1 : Addr) (k1 : ClassId) (n1 : Int32) (bs1 : List Int32) (hs1 : Int32) (hz1 : Int32) (b2 : Addr) (k2 : ClassId) (n2 : Int32) (bs2 : List Int32) (hs2 : Int32) (hz2 : Int32) (r : Int32) (h0 : Heap) (n0 : Nat) (Z0 : n0 ≤ h0.size) (O0 : Old Z n0 h0) (J0 : Jd Z cz fv) (SL1 : StL Z h0 a1 b1 k1 n1 bs1 hs1 hz1) (SL2 : StL Z h0 a2 b2 k2 n2 bs2 hs2 hz2) (ne12 : a1 ≠ a2) (g1 : n1.toInt = bs1.length) (g2 : n2.toInt = bs2.length) (hL : bs1.length = bs2.length → bs1.length = 7 ∨ bs1.length = 9) (hR : eqB bs1 bs2 = r) (h01 : r = 0 ∨ r = 1) :
    MF l Z mN1 jdk_42_method_66_code 3 (some .boolean) ws rKJed #[(.ref a1), (.ref a2)] h0 (QJed Z a1 a2 cz fv b1 k1 n1 bs1 hs1 hz1 b2 k2 n2 bs2 hs2 hz2 r h0 n0) := by
  refine MetFree.of_bodySF (plainFor_of_name pn1) hisR ?_
  intro p e s m args bl meth c s1 Bd hml0 hP hK
  obtain ⟨rfl, hZ, hh⟩ := hP
  have hx := Bd.exec
  have hby := Bd.bytes
  have B := @hb c _ hby
  have hM := fun {n : Nat} (h : n = 3) => h.trans hml0.symm
  have hown : s.vm.findClass "java/lang/String" = some m.cls := findClass_of_methodNamed Bd.named
  have hlk : meth.locks = false := BodyLoose.notSynchronized Bd
  have hrt : ∀ {v : Option Value}, meth.sig.returnType = none → v = none := fun h => by rw [Bd.returns] at h; cases h
  have X0 : Stand p l e rKJed s m #[(.ref a1), (.ref a2)] bl meth c s1 [] 0 0 := Stand.of_body Bd
  have e0 : s1.heap = h0 := by rw [← hh, Bd.state]; rfl
  have N0 := Fr.nil n0
  obtain ⟨EF, hEF⟩ : ∃ f, f = entryFrame m #[(.ref a1), (.ref a2)] 3 := ⟨_, rfl⟩
  have pre0 : Go p e bl s1 (mkF m 0 #[rv a1, rv a2, .unset] []) s1 EF := fun t k => by rw [hEF]; exact castTop (efJed m a1 a2) k
  have pre1 : Go p e bl s1 (mkF m 2 #[rv a1, rv a2, .unset] [(.ref a2), (.ref a1)]) s1 EF := fun t k => pre0 t (by
   refine XS.aloadN X0.here hx rfl (B d1_0) rfl rfl ?_
   exact XS.aloadN X0.here hx rfl (B d1_1) rfl rfl k)
  have pre2 : Go p e bl s1 (mkF m 7 #[rv a1, rv a2, .unset] []) s1 EF := fun t k => pre1 t (Jvm.RoadKit.acmp (g := (mkF m 2 #[rv a1, rv a2, .unset] [(.ref a2), (.ref a1)])) X0 hx rfl rfl rfl (pc0 := 2) (pc' := 7) (same := false) rfl (B d1_2) rfl (decide_eq_false fun q => ne12 (Value.ref.inj q)) (by decide) (by decide) k)
  have pre3 : Go p e bl s1 (mkF m 8 #[rv a1, rv a2, .unset] [(.ref a2)]) s1 EF := fun t k => pre2 t (by
   exact XS.aloadN X0.here hx rfl (B d1_7) rfl rfl k)
  obtain ⟨T4, X4, e4, st4⟩ := instY X0 hx hZ hown (hw _ (mW 67 rfl)) e0 (Ins.self SL2.1) (g := (mkF m 8 #[rv a1, rv a2, .unset] [(.ref a2)])) rfl rfl (B d1_8)
  have pre5 : Go p e bl T4 (mkF m 11 #[rv a1, rv a2, .unset] [(.int 1)]) s1 EF := fun t k => pre3 t (st4 t k)
  have pre6 : Go p e bl T4 (mkF m 14 #[rv a1, rv a2, .unset] []) s1 EF := fun t k => pre5 t (XS.ifNo X4.here hx rfl (B d1_11) rfl ((if0 _ _).trans (feq (by decide : ¬ ((1 : Int32) = (0 : Int32)))).1) k)
  have pre7 : Go p e bl T4 (mkF m 15 #[rv a1, rv a2, .unset] [(.ref a2)]) s1 EF := fun t k => pre6 t (by
   exact XS.aloadN X4.here hx rfl (B d1_14) rfl rfl k)
  obtain ⟨T8, X8, e8, st8⟩ := castY X4 hx hZ hown (hw _ (mW 67 rfl)) e4 (Ins.self SL2.1) (g := (mkF m 15 #[rv a1, rv a2, .unset] [(.ref a2)])) rfl rfl (B d1_15)
  have pre9 : Go p e bl T8 (mkF m 18 #[rv a1, rv a2, .unset] [(.ref a2)]) s1 EF := fun t k => pre7 t (st8 t k)
  have pre10 : Go p e bl T8 (mkF m 19 #[rv a1, rv a2, rv a2] []) s1 EF := fun t k => pre9 t (by
   exact XS.astoreN X8.here hx rfl (B d1_18) rfl rfl (l' := #[rv a1, rv a2, rv a2]) rfl k)
  obtain ⟨T11, X11, e11, st11⟩ := getS2 X8 hx hZ hown (host := "") (Or.inl (hw _ (mW 18 rfl))) Via.refl e8 (J0.1.ext O0.2) (g := (mkF m 19 #[rv a1, rv a2, rv a2] [])) rfl (B d1_19)
  have pre12 : Go p e bl T11 (mkF m 22 #[rv a1, rv a2, rv a2] [(.int cz)]) s1 EF := fun t k => pre10 t (st11 t k)
  have pre13 : Go p e bl T11 (mkF m 25 #[rv a1, rv a2, rv a2] []) s1 EF := fun t k => pre12 t (XS.ifNo X11.here hx rfl (B d1_22) rfl ((if0 _ _).trans (feq J0.2.1).1) k)
  have pre14 : Go p e bl T11 (mkF m 26 #[rv a1, rv a2, rv a2] [(.ref a1)]) s1 EF := fun t k => pre13 t (by
   exact XS.aloadN X11.here hx rfl (B d1_25) rfl rfl k)
  obtain ⟨T15, X15, e15, st15⟩ := getF X11 hx hZ hown (host := "") (Or.inl (hw _ (mW 30 rfl))) Via.refl e11 SL1.2.1 (g := (mkF m 26 #[rv a1, rv a2, rv a2] [(.ref a1)])) rfl rfl (B d1_26)
  have pre16 : Go p e bl T15 (mkF m 29 #[rv a1, rv a2, rv a2] [(.int 0)]) s1 EF := fun t k => pre14 t (st15 t k)
  have pre17 : Go p e bl T15 (mkF m 30 #[rv a1, rv a2, rv a2] [(.ref a2), (.int 0)]) s1 EF := fun t k => pre16 t (by
   exact XS.aloadN X15.here hx rfl (B d1_29) rfl rfl k)
  obtain ⟨T18, X18, e18, st18⟩ := getF X15 hx hZ hown (host := "") (Or.inl (hw _ (mW 30 rfl))) Via.refl e15 SL2.2.1 (g := (mkF m 30 #[rv a1, rv a2, rv a2] [(.ref a2), (.int 0)])) rfl rfl (B d1_30)
  have pre19 : Go p e bl T18 (mkF m 33 #[rv a1, rv a2, rv a2] [(.int 0), (.int 0)]) s1 EF := fun t k => pre17 t (st18 t k)
  have pre20 : Go p e bl T18 (mkF m 36 #[rv a1, rv a2, rv a2] []) s1 EF := fun t k => pre19 t (XS.icmpNo X18.here hx rfl (B d1_33) rfl (teq (by decide : (0 : Int32) = (0 : Int32))).2 k)
  have pre21 : Go p e bl T18 (mkF m 37 #[rv a1, rv a2, rv a2] [(.ref a1)]) s1 EF := fun t k => pre20 t (by
   exact XS.aloadN X18.here hx rfl (B d1_36) rfl rfl k)
  obtain ⟨T22, X22, e22, st22⟩ := getF X18 hx hZ hown (host := "") (Or.inl (hw _ (mW 32 rfl))) Via.refl e18 SL1.2.2.1 (g := (mkF m 37 #[rv a1, rv a2, rv a2] [(.ref a1)])) rfl rfl (B d1_37)
  have pre23 : Go p e bl T22 (mkF m 40 #[rv a1, rv a2, rv a2] [(.ref b1)]) s1 EF := fun t k => pre21 t (st22 t k)
  have pre24 : Go p e bl T22 (mkF m 41 #[rv a1, rv a2, rv a2] [(.ref a2), (.ref b1)]) s1 EF := fun t k => pre23 t (by
   exact XS.aloadN X22.here hx rfl (B d1_40) rfl rfl k)
  obtain ⟨T25, X25, e25, st25⟩ := getF X22 hx hZ hown (host := "") (Or.inl (hw _ (mW 32 rfl))) Via.refl e22 SL2.2.2.1 (g := (mkF m 41 #[rv a1, rv a2, rv a2] [(.ref a2), (.ref b1)])) rfl rfl (B d1_41)
  have pre26 : Go p e bl T25 (mkF m 44 #[rv a1, rv a2, rv a2] [(.ref b2), (.ref b1)]) s1 EF := fun t k => pre24 t (st25 t k)
  obtain ⟨_, _, ⟨T27, L27, k27, n27⟩, -, X27, ⟨Lc27, hQ27, l27, y27, z27⟩, st27⟩ := Jvm.LawKit.callS X25 hx (y := mN0) hown (mvT hZ (hw _ (mW 68 rfl))) (mvT hZ (hw _ (mW 69 rfl))) (mvT hZ (hw _ (mW 70 rfl))) (mvT hZ (hw _ (mW 71 rfl))) (by decide) (backOf (W := 0) (rmJE l Z a0 hw [] b1 b2 cz fv k1 k2 n1 n2 bs1 bs2 r h0 n0 Z0 O0 J0 SL1.2.2.2.1 SL2.2.2.2.1 g1 g2 hL hR) hZ (hw _ (mW 71 rfl)) (hw _ (mW 70 rfl)) (by decide) (by decide)) (g := (mkF m 44 #[rv a1, rv a2, rv a2] [(.ref b2), (.ref b1)])) rfl (hM rfl) (argsL := [(.ref b1), (.ref b2)]) (rest := []) (lenOf pd0 rfl) rfl (Nat.le_of_eq rfl) (B d1_44) (fun _ _ => ⟨rfl, e25, wl rfl, wl rfl⟩)
  dsimp only [Pt.U, Pt.locs, Pt.cells, Pt.slots] at X27 l27 y27 z27 st27 hQ27
  subst l27 y27 z27
  obtain ⟨rfl, N27q, hq27⟩ := hQ27
  have N27 := Fr.app N0 N27q
  have pre28 : Go p e bl T27 (mkF m 47 #[rv a1, rv a2, rv a2] [(.int r)]) s1 EF := fun t k => pre26 t (st27 t k)
  have e27 : T27.heap = h0 := hq27
  by_cases hc47 : r = (0 : Int32)
  · have pre29 : Go p e bl T27 (mkF m 54 #[rv a1, rv a2, rv a2] []) s1 EF := fun t k => pre28 t (XS.ifYes X27.here hx rfl (pc0 := 47) (pc' := 54) rfl (B d1_47) rfl ((if0 _ _).trans (teq hc47).1) (by decide) (by decide) k)
    have pre30 : Go p e bl T27 (mkF m 55 #[rv a1, rv a2, rv a2] [(.int 0)]) s1 EF := fun t k => pre29 t (by
     exact XS.iconst X27.here hx rfl (B d1_54) k)
    have hnr : Value.int (nar .boolean (0 : Int32)) = (.int 0) := by rfl
    exact fin1 X27 (v := some (.int 0)) hrt hlk (wl rfl) (wl rfl) (by rw [e27]; exact ⟨by rw [hc47], N27, rfl⟩) (fun fs hr => hEF ▸ pre30 _ (retN X27 hx (t := .boolean) Bd.returns (by simp) (B d1_55) (hnr ▸ hr)))
  have pre31 : Go p e bl T27 (mkF m 50 #[rv a1, rv a2, rv a2] []) s1 EF := fun t k => pre28 t (XS.ifNo X27.here hx rfl (B d1_47) rfl ((if0 _ _).trans (feq hc47).1) k)
  have pre32 : Go p e bl T27 (mkF m 55 #[rv a1, rv a2, rv a2] [(.int 1)]) s1 EF := fun t k => pre31 t (by
   refine XS.iconst X27.here hx rfl (B d1_50) ?_
   exact XS.goto X27.here hx rfl (pc0 := 51) (pc' := 55) rfl (B d1_51) (by decide) (by decide) k)
  have hnr : Value.int (nar .boolean (1 : Int32)) = (.int 1) := by rfl
  exact fin1 X27 (v := some (.int 1)) hrt hlk (wl rfl) (wl rfl) (by rw [e27]; exact ⟨by rw [h01.resolve_left hc47], N27, rfl⟩) (fun fs hr => hEF ▸ pre32 _ (retN X27 hx (t := .boolean) Bd.returns (by simp) (B d1_55) (hnr ▸ hr)))
abbrev rKJes : Room := { frames := 1, cells := 0, slots := 0, locals := 14 }
theorem d1_5 : decode jdk_42_method_66_code 5 = .ok (.iconst 1, 1) := by decide +kernel
theorem d1_6 : decode jdk_42_method_66_code 6 = .ok (.ireturn, 1) := by decide +kernel
theorem efJes (m : MethodId) (a1 : Addr) (a2 : Addr) : entryFrame m #[(.ref a1), (.ref a2)] 3 = mkF m 0 #[rv a1, rv a2, .unset] [] := by first | (simp [entryFrame, mkF, argsToLocals, Value.category]; done) | rfl
def QJes (Z : State) (a1 : Addr) (a2 : Addr) (cz : Int32) (fv : Value) (h0 : Heap) (n0 : Nat) (v : Option Value) (h : Heap) (L : List Loc) : Prop := v = some (.int 1) ∧ Fr n0 L ∧ h = h0
set_option maxRecDepth 65536 in
set_option maxHeartbeats 40000000 in
theorem rmJes (l : Launch) (Z : State) (a0 : Array Value) (hw : HW a0 Z) (ws : List Jvm.Cond) (a1 : Addr) (a2 : Addr) (cz : Int32) (fv : Value) (h0 : Heap) (n0 : Nat) (Z0 : n0 ≤ h0.size) (O0 : Old Z n0 h0) (J0 : Jd Z cz fv) (h12 : a1 = a2) :
    MF l Z mN1 jdk_42_method_66_code 3 (some .boolean) ws rKJes #[(.ref a1), (.ref a2)] h0 (QJes Z a1 a2 cz fv h0 n0) := by
  refine MetFree.of_bodySF (plainFor_of_name pn1) hisR ?_
  intro p e s m args bl meth c s1 Bd hml0 hP hK
  obtain ⟨rfl, hZ, hh⟩ := hP
  have hx := Bd.exec
  have hby := Bd.bytes
  have B := @hb c _ hby
  have hown : s.vm.findClass "java/lang/String" = some m.cls := findClass_of_methodNamed Bd.named
  have hlk : meth.locks = false := BodyLoose.notSynchronized Bd
  have hrt : ∀ {v : Option Value}, meth.sig.returnType = none → v = none := fun h => by rw [Bd.returns] at h; cases h
  have X0 : Stand p l e rKJes s m #[(.ref a1), (.ref a2)] bl meth c s1 [] 0 0 := Stand.of_body Bd
  have e0 : s1.heap = h0 := by rw [← hh, Bd.state]; rfl
  have N0 := Fr.nil n0
  obtain ⟨EF, hEF⟩ : ∃ f, f = entryFrame m #[(.ref a1), (.ref a2)] 3 := ⟨_, rfl⟩
  have pre0 : Go p e bl s1 (mkF m 0 #[rv a1, rv a2, .unset] []) s1 EF := fun t k => by rw [hEF]; exact castTop (efJes m a1 a2) k
  have pre1 : Go p e bl s1 (mkF m 2 #[rv a1, rv a2, .unset] [(.ref a2), (.ref a1)]) s1 EF := fun t k => pre0 t (by
   refine XS.aloadN X0.here hx rfl (B d1_0) rfl rfl ?_
   exact XS.aloadN X0.here hx rfl (B d1_1) rfl rfl k)
  have pre2 : Go p e bl s1 (mkF m 5 #[rv a1, rv a2, .unset] []) s1 EF := fun t k => pre1 t (Jvm.RoadKit.acmp (g := (mkF m 2 #[rv a1, rv a2, .unset] [(.ref a2), (.ref a1)])) X0 hx rfl rfl rfl (pc0 := 2) (pc' := 5) (same := true) rfl (B d1_2) rfl (decide_eq_true (congrArg Value.ref h12)) (by decide) (by decide) k)
  have pre3 : Go p e bl s1 (mkF m 6 #[rv a1, rv a2, .unset] [(.int 1)]) s1 EF := fun t k => pre2 t (by
   exact XS.iconst X0.here hx rfl (B d1_5) k)
  have hnr : Value.int (nar .boolean (1 : Int32)) = (.int 1) := by rfl
  exact fin1 X0 (v := some (.int 1)) hrt hlk (wl rfl) (wl rfl) (by rw [e0]; exact ⟨rfl, N0, rfl⟩) (fun fs hr => hEF ▸ pre3 _ (retN X0 hx (t := .boolean) Bd.returns (by simp) (B d1_6) (hnr ▸ hr)))
theorem rmQ (l : Launch) (Z : State) (a0 : Array Value) (hw : HW a0 Z) (ws : List Jvm.Cond) (a1 a2 : Addr) (cz : Int32) (fv : Value) (b1 : Addr) (k1 : ClassId) (n1 : Int32) (bs1 : List Int32) (hs1 : Int32) (hz1 : Int32) (b2 : Addr) (k2 : ClassId) (n2 : Int32) (bs2 : List Int32) (hs2 : Int32) (hz2 : Int32) (r : Int32) (h0 : Heap) (n0 : Nat) (Z0 : n0 ≤ h0.size) (O0 : Old Z n0 h0) (J0 : Jd Z cz fv) (SL1 : StL Z h0 a1 b1 k1 n1 bs1 hs1 hz1) (SL2 : StL Z h0 a2 b2 k2 n2 bs2 hs2 hz2) (g1 : n1.toInt = bs1.length) (g2 : n2.toInt = bs2.length) (hL : bs1.length = bs2.length → bs1.length = 7 ∨ bs1.length = 9) (hR : eqB bs1 bs2 = r) :
    MF l Z mN1 jdk_42_method_66_code 3 (some .boolean) ws rKJed #[(.ref a1), (.ref a2)] h0 (QP r h0 n0) := by
  by_cases e : a1 = a2
  · obtain rfl : r = 1 := by
      subst e
      rw [← hR, own_same SL1 SL2 g1 g2]; exact own_refl _
    exact rmJes l Z a0 hw ws a1 a2 cz fv h0 n0 Z0 O0 J0 e
  · exact rmJed l Z a0 hw ws a1 a2 cz fv b1 k1 n1 bs1 hs1 hz1 b2 k2 n2 bs2 hs2 hz2 r h0 n0 Z0 O0 J0 SL1 SL2 e g1 g2 hL hR (by rw [← hR]; exact own_eqB _ _)
theorem own_len {n : Int32} {bs : List Int32} (h1 : n.toInt = bs.length) (h2 : 1 ≤ bs.length) (h3 : bs.length ≤ 10) : (∃ u0, bs = [u0] ∧ n = 1) ∨ (∃ u0 u1, bs = [u0, u1] ∧ n = 2) ∨ (∃ u0 u1 u2, bs = [u0, u1, u2] ∧ n = 3) ∨ (∃ u0 u1 u2 u3, bs = [u0, u1, u2, u3] ∧ n = 4) ∨ (∃ u0 u1 u2 u3 u4, bs = [u0, u1, u2, u3, u4] ∧ n = 5) ∨ (∃ u0 u1 u2 u3 u4 u5, bs = [u0, u1, u2, u3, u4, u5] ∧ n = 6) ∨ (∃ u0 u1 u2 u3 u4 u5 u6, bs = [u0, u1, u2, u3, u4, u5, u6] ∧ n = 7) ∨ (∃ u0 u1 u2 u3 u4 u5 u6 u7, bs = [u0, u1, u2, u3, u4, u5, u6, u7] ∧ n = 8) ∨ (∃ u0 u1 u2 u3 u4 u5 u6 u7 u8, bs = [u0, u1, u2, u3, u4, u5, u6, u7, u8] ∧ n = 9) ∨ (∃ u0 u1 u2 u3 u4 u5 u6 u7 u8 u9, bs = [u0, u1, u2, u3, u4, u5, u6, u7, u8, u9] ∧ n = 10) := by
  match bs, h1, h2, h3 with
  | [u0], h1, _, _ => exact Or.inl ⟨u0, rfl, by rw [← Int32.toInt_inj, h1]; rfl⟩
  | [u0, u1], h1, _, _ => exact Or.inr (Or.inl ⟨u0, u1, rfl, by rw [← Int32.toInt_inj, h1]; rfl⟩)
  | [u0, u1, u2], h1, _, _ => exact Or.inr (Or.inr (Or.inl ⟨u0, u1, u2, rfl, by rw [← Int32.toInt_inj, h1]; rfl⟩))
  | [u0, u1, u2, u3], h1, _, _ => exact Or.inr (Or.inr (Or.inr (Or.inl ⟨u0, u1, u2, u3, rfl, by rw [← Int32.toInt_inj, h1]; rfl⟩)))
  | [u0, u1, u2, u3, u4], h1, _, _ => exact Or.inr (Or.inr (Or.inr (Or.inr (Or.inl ⟨u0, u1, u2, u3, u4, rfl, by rw [← Int32.toInt_inj, h1]; rfl⟩))))
  | [u0, u1, u2, u3, u4, u5], h1, _, _ => exact Or.inr (Or.inr (Or.inr (Or.inr (Or.inr (Or.inl ⟨u0, u1, u2, u3, u4, u5, rfl, by rw [← Int32.toInt_inj, h1]; rfl⟩)))))
  | [u0, u1, u2, u3, u4, u5, u6], h1, _, _ => exact Or.inr (Or.inr (Or.inr (Or.inr (Or.inr (Or.inr (Or.inl ⟨u0, u1, u2, u3, u4, u5, u6, rfl, by rw [← Int32.toInt_inj, h1]; rfl⟩))))))
  | [u0, u1, u2, u3, u4, u5, u6, u7], h1, _, _ => exact Or.inr (Or.inr (Or.inr (Or.inr (Or.inr (Or.inr (Or.inr (Or.inl ⟨u0, u1, u2, u3, u4, u5, u6, u7, rfl, by rw [← Int32.toInt_inj, h1]; rfl⟩)))))))
  | [u0, u1, u2, u3, u4, u5, u6, u7, u8], h1, _, _ => exact Or.inr (Or.inr (Or.inr (Or.inr (Or.inr (Or.inr (Or.inr (Or.inr (Or.inl ⟨u0, u1, u2, u3, u4, u5, u6, u7, u8, rfl, by rw [← Int32.toInt_inj, h1]; rfl⟩))))))))
  | [u0, u1, u2, u3, u4, u5, u6, u7, u8, u9], h1, _, _ => exact Or.inr (Or.inr (Or.inr (Or.inr (Or.inr (Or.inr (Or.inr (Or.inr (Or.inr (⟨u0, u1, u2, u3, u4, u5, u6, u7, u8, u9, rfl, by rw [← Int32.toInt_inj, h1]; rfl⟩)))))))))
  | [], _, h2, _ => exact absurd h2 (by decide)
  | _ :: _ :: _ :: _ :: _ :: _ :: _ :: _ :: _ :: _ :: _ :: _, _, _, h3 => simp at h3
abbrev i8s (cs : List Int32) : List Int32 := cs.map fun c => c.toInt8.toInt32
theorem own_cd (n : Int32) : nar .byte (((n - n).toUInt32 >>> ((31 : Int32) &&& 31).toUInt32).toInt32.toInt8.toInt32) = 0 := by rw [Int32.sub_self]; decide
abbrev rKKa10 : Room := { frames := 0, cells := 0, slots := 0, locals := 0 }
theorem d2_0 : decode jdk_52_method_21_code 0 = .ok (.iconst 0, 1) := by decide +kernel
theorem d2_1 : decode jdk_52_method_21_code 1 = .ok (.istore 5, 2) := by decide +kernel
theorem d2_3 : decode jdk_52_method_21_code 3 = .ok (.iload 5, 2) := by decide +kernel
theorem d2_5 : decode jdk_52_method_21_code 5 = .ok (.iload 4, 2) := by decide +kernel
theorem d2_7 : decode jdk_52_method_21_code 7 = .ok (.if_icmp .ge 37, 3) := by decide +kernel
theorem d2_10 : decode jdk_52_method_21_code 10 = .ok (.aload_n 0, 1) := by decide +kernel
theorem d2_11 : decode jdk_52_method_21_code 11 = .ok (.iload_n 1, 1) := by decide +kernel
theorem d2_12 : decode jdk_52_method_21_code 12 = .ok (.caload, 1) := by decide +kernel
theorem d2_13 : decode jdk_52_method_21_code 13 = .ok (.istore 6, 2) := by decide +kernel
theorem d2_15 : decode jdk_52_method_21_code 15 = .ok (.iload 6, 2) := by decide +kernel
theorem d2_17 : decode jdk_52_method_21_code 17 = .ok (.sipush 255, 3) := by decide +kernel
theorem d2_20 : decode jdk_52_method_21_code 20 = .ok (.if_icmp .le 6, 3) := by decide +kernel
theorem d2_26 : decode jdk_52_method_21_code 26 = .ok (.aload_n 2, 1) := by decide +kernel
theorem d2_27 : decode jdk_52_method_21_code 27 = .ok (.iload_n 3, 1) := by decide +kernel
theorem d2_28 : decode jdk_52_method_21_code 28 = .ok (.iload 6, 2) := by decide +kernel
theorem d2_30 : decode jdk_52_method_21_code 30 = .ok (.i2b, 1) := by decide +kernel
theorem d2_31 : decode jdk_52_method_21_code 31 = .ok (.bastore, 1) := by decide +kernel
theorem d2_32 : decode jdk_52_method_21_code 32 = .ok (.iinc 1 1, 3) := by decide +kernel
theorem d2_35 : decode jdk_52_method_21_code 35 = .ok (.iinc 3 1, 3) := by decide +kernel
theorem d2_38 : decode jdk_52_method_21_code 38 = .ok (.iinc 5 1, 3) := by decide +kernel
theorem d2_41 : decode jdk_52_method_21_code 41 = .ok (.goto (-38), 3) := by decide +kernel
theorem d2_44 : decode jdk_52_method_21_code 44 = .ok (.iload 4, 2) := by decide +kernel
theorem d2_46 : decode jdk_52_method_21_code 46 = .ok (.ireturn, 1) := by decide +kernel
theorem pn2 : plainName "java/lang/StringUTF16" = true := by first | (simp [plainName, overriddenIn]; done) | decide +kernel
theorem efKa10 (m : MethodId) (a1 : Addr) (a2 : Addr) : entryFrame m #[(.ref a1), (.int 0), (.ref a2), (.int 0), (.int 10)] 7 = mkF m 0 #[rv a1, iv 0, rv a2, iv 0, iv 10, .unset, .unset] [] := by first | (simp [entryFrame, mkF, argsToLocals, Value.category]; done) | rfl
def QKa10 (Z : State) (a1 : Addr) (a2 : Addr) (cz : Int32) (fv : Value) (k1 : ClassId) (k2 : ClassId) (c0 : Int32) (c1 : Int32) (c2 : Int32) (c3 : Int32) (c4 : Int32) (c5 : Int32) (c6 : Int32) (c7 : Int32) (c8 : Int32) (c9 : Int32) (h0 : Heap) (n0 : Nat) (v : Option Value) (h : Heap) (L : List Loc) : Prop := v = some (.int 10) ∧ Fr n0 L ∧ Keep h0 h [a2] ∧ Arv Z h a2 k2 .byte (10 : Int32) [(.int (c0.toInt8.toInt32)), (.int (c1.toInt8.toInt32)), (.int (c2.toInt8.toInt32)), (.int (c3.toInt8.toInt32)), (.int (c4.toInt8.toInt32)), (.int (c5.toInt8.toInt32)), (.int (c6.toInt8.toInt32)), (.int (c7.toInt8.toInt32)), (.int (c8.toInt8.toInt32)), (.int (c9.toInt8.toInt32))] (.int 0)
set_option maxRecDepth 65536 in
set_option maxHeartbeats 40000000 in
theorem rmKa10 (l : Launch) (Z : State) (a0 : Array Value) (hw : HW a0 Z) (ws : List Jvm.Cond) (a1 : Addr) (a2 : Addr) (cz : Int32) (fv : Value) (k1 : ClassId) (k2 : ClassId) (c0 : Int32) (c1 : Int32) (c2 : Int32) (c3 : Int32) (c4 : Int32) (c5 : Int32) (c6 : Int32) (c7 : Int32) (c8 : Int32) (c9 : Int32) (h0 : Heap) (n0 : Nat) (Z0 : n0 ≤ h0.size) (O0 : Old Z n0 h0) (J0 : Jd Z cz fv) (V1 : Arv Z h0 a1 k1 .char (10 : Int32) [(.int c0), (.int c1), (.int c2), (.int c3), (.int c4), (.int c5), (.int c6), (.int c7), (.int c8), (.int c9)] (.int 0)) (V2 : Arv Z h0 a2 k2 .byte (10 : Int32) [(.int 0), (.int 0), (.int 0), (.int 0), (.int 0), (.int 0), (.int 0), (.int 0), (.int 0), (.int 0)] (.int 0)) (ne12 : a1 ≠ a2) (g_a2 : n0 ≤ a2) (hle : (∀ c ∈ [c0, c1, c2, c3, c4, c5, c6, c7, c8, c9], ¬ (255 : Int32) < c)) :
    MF l Z mN2 jdk_52_method_21_code 7 (some .int) ws rKKa10 #[(.ref a1), (.int 0), (.ref a2), (.int 0), (.int 10)] h0 (QKa10 Z a1 a2 cz fv k1 k2 c0 c1 c2 c3 c4 c5 c6 c7 c8 c9 h0 n0) := by
  refine MetFree.of_bodySF (plainFor_of_name pn2) hisR ?_
  intro p e s m args bl meth c s1 Bd hml0 hP hK
  obtain ⟨rfl, hZ, hh⟩ := hP
  have hx := Bd.exec
  have hby := Bd.bytes
  have B := @hb c _ hby
  have hown : s.vm.findClass "java/lang/StringUTF16" = some m.cls := findClass_of_methodNamed Bd.named
  have hlk : meth.locks = false := BodyLoose.notSynchronized Bd
  have hrt : ∀ {v : Option Value}, meth.sig.returnType = none → v = none := fun h => by rw [Bd.returns] at h; cases h
  have X0 : Stand p l e rKKa10 s m #[(.ref a1), (.int 0), (.ref a2), (.int 0), (.int 10)] bl meth c s1 [] 0 0 := Stand.of_body Bd
  have e0 : s1.heap = h0 := by rw [← hh, Bd.state]; rfl
  have N0 := Fr.nil n0
  obtain ⟨EF, hEF⟩ : ∃ f, f = entryFrame m #[(.ref a1), (.int 0), (.ref a2), (.int 0), (.int 10)] 7 := ⟨_, rfl⟩
  have pre0 : Go p e bl s1 (mkF m 0 #[rv a1, iv 0, rv a2, iv 0, iv 10, .unset, .unset] []) s1 EF := fun t k => by rw [hEF]; exact castTop (efKa10 m a1 a2) k
  have pre1 : Go p e bl s1 (mkF m 7 #[rv a1, iv 0, rv a2, iv 0, iv 10, iv 0, .unset] [(.int 10), (.int 0)]) s1 EF := fun t k => pre0 t (by
   refine XS.iconst X0.here hx rfl (B d2_0) ?_
   refine XS.istore X0.here hx rfl (B d2_1) rfl (l' := #[rv a1, iv 0, rv a2, iv 0, iv 10, iv 0, .unset]) rfl ?_
   refine XS.iload X0.here hx rfl (B d2_3) rfl ?_
   exact XS.iload X0.here hx rfl (B d2_5) rfl k)
  have pre2 : Go p e bl s1 (mkF m 10 #[rv a1, iv 0, rv a2, iv 0, iv 10, iv 0, .unset] []) s1 EF := fun t k => pre1 t (XS.icmpNo X0.here hx rfl (B d2_7) rfl (tlt (by decide : (0 : Int32) < (10 : Int32))).2.1 k)
  have pre3 : Go p e bl s1 (mkF m 12 #[rv a1, iv 0, rv a2, iv 0, iv 10, iv 0, .unset] [(.int 0), (.ref a1)]) s1 EF := fun t k => pre2 t (by
   refine XS.aloadN X0.here hx rfl (B d2_10) rfl rfl ?_
   exact XS.iloadN X0.here hx rfl (B d2_11) rfl k)
  obtain ⟨cl4, Ar4, q4, Sz4, M4, H4, G4⟩ := id V1
  have hin4 := inb_of (j := (0 : Int32)) Sz4 ⟨by decide, by decide⟩
  have hat4 := Has.at (v := (.int c0)) H4 hin4 rfl
  have pre5 : Go p e bl s1 (mkF m 20 #[rv a1, iv 0, rv a2, iv 0, iv 10, iv 0, iv c0] [(.int 255), (.int c0)]) s1 EF := fun t k => pre3 t (by
   refine X0.caload hx (j := 0) (v := (.int c0)) (hp e0 Ar4) (State.isArrayOf_alike hZ.alike Ar4.2.1) Ar4.2.2 hin4 hat4 (g := (mkF m 12 #[rv a1, iv 0, rv a2, iv 0, iv 10, iv 0, .unset] [(.int 0), (.ref a1)])) rfl rfl (B d2_12) _ ?_
   refine XS.istore X0.here hx rfl (B d2_13) rfl (l' := #[rv a1, iv 0, rv a2, iv 0, iv 10, iv 0, iv c0]) rfl ?_
   refine XS.iload X0.here hx rfl (B d2_15) rfl ?_
   exact XS.sipush X0.here hx rfl (B d2_17) k)
  have pre6 : Go p e bl s1 (mkF m 26 #[rv a1, iv 0, rv a2, iv 0, iv 10, iv 0, iv c0] []) s1 EF := fun t k => pre5 t (XS.icmpYes X0.here hx rfl (pc0 := 20) (pc' := 26) rfl (B d2_20) rfl (flt (hle c0 (mg 0 rfl))).2.2.2 (by decide) (by decide) k)
  have pre7 : Go p e bl s1 (mkF m 31 #[rv a1, iv 0, rv a2, iv 0, iv 10, iv 0, iv c0] [(.int (c0.toInt8.toInt32)), (.int 0), (.ref a2)]) s1 EF := fun t k => pre6 t (by
   refine XS.aloadN X0.here hx rfl (B d2_26) rfl rfl ?_
   refine XS.iloadN X0.here hx rfl (B d2_27) rfl ?_
   refine XS.iload X0.here hx rfl (B d2_28) rfl ?_
   exact XS.i2b X0.here hx rfl (B d2_30) rfl k)
  obtain ⟨cl8, Ar8, q8, Sz8, M8, H8, G8⟩ := id V2
  have hin8 := inb_of (j := (0 : Int32)) Sz8 ⟨by decide, by decide⟩
  obtain ⟨T8, h8, X8, e8, W8, st8⟩ := stB X0 hx hZ e0 Ar8 (j := 0) hin8 (g := (mkF m 31 #[rv a1, iv 0, rv a2, iv 0, iv 10, iv 0, iv c0] [(.int (c0.toInt8.toInt32)), (.int 0), (.ref a2)])) rfl rfl (B d2_31)
  rw [own_i2b2] at W8
  have pre9 : Go p e bl T8 (mkF m 32 #[rv a1, iv 0, rv a2, iv 0, iv 10, iv 0, iv c0] []) s1 EF := fun t k => pre7 t (st8 t k)
  have O10 : Old Z n0 h8 := O0.wr W8 g_a2
  have Z10 : n0 ≤ h8.size := Nat.le_trans Z0 (Keep.of_wr W8).1
  have K10 : Keep h0 h8 [a2] := (Keep.refl h0 [a2]).wr W8 (Or.inl (mg 0 rfl))
  have V8 : Arv Z h8 a2 k2 .byte (10 : Int32) [(.int (c0.toInt8.toInt32)), (.int 0), (.int 0), (.int 0), (.int 0), (.int 0), (.int 0), (.int 0), (.int 0), (.int 0)] (.int 0) := Arv.set Ar8 q8 Sz8 M8 H8 G8 (fits_nar_byte _) W8 0 rfl (wl rfl)
  have N8 := Fr.snoc X8 N0 g_a2
  have pre11 : Go p e bl T8 (mkF m 7 #[rv a1, iv 1, rv a2, iv 1, iv 10, iv 1, iv c0] [(.int 10), (.int 1)]) s1 EF := fun t k => pre9 t (by
   refine XS.iinc X8.here hx rfl (B d2_32) rfl (l' := #[rv a1, iv 1, rv a2, iv 0, iv 10, iv 0, iv c0]) rfl ?_
   refine XS.iinc X8.here hx rfl (B d2_35) rfl (l' := #[rv a1, iv 1, rv a2, iv 1, iv 10, iv 0, iv c0]) rfl ?_
   refine XS.iinc X8.here hx rfl (B d2_38) rfl (l' := #[rv a1, iv 1, rv a2, iv 1, iv 10, iv 1, iv c0]) rfl ?_
   refine XS.goto X8.here hx rfl (pc0 := 41) (pc' := 3) rfl (B d2_41) (by decide) (by decide) ?_
   refine XS.iload X8.here hx rfl (B d2_3) rfl ?_
   exact XS.iload X8.here hx rfl (B d2_5) rfl k)
  have pre12 : Go p e bl T8 (mkF m 10 #[rv a1, iv 1, rv a2, iv 1, iv 10, iv 1, iv c0] []) s1 EF := fun t k => pre11 t (XS.icmpNo X8.here hx rfl (B d2_7) rfl (tlt (by decide : (1 : Int32) < (10 : Int32))).2.1 k)
  have pre13 : Go p e bl T8 (mkF m 12 #[rv a1, iv 1, rv a2, iv 1, iv 10, iv 1, iv c0] [(.int 1), (.ref a1)]) s1 EF := fun t k => pre12 t (by
   refine XS.aloadN X8.here hx rfl (B d2_10) rfl rfl ?_
   exact XS.iloadN X8.here hx rfl (B d2_11) rfl k)
  obtain ⟨cl14, Ar14, q14, Sz14, M14, H14, G14⟩ := id (V1.other W8 ne12)
  have hin14 := inb_of (j := (1 : Int32)) Sz14 ⟨by decide, by decide⟩
  have hat14 := Has.at (v := (.int c1)) H14 hin14 rfl
  have pre15 : Go p e bl T8 (mkF m 20 #[rv a1, iv 1, rv a2, iv 1, iv 10, iv 1, iv c1] [(.int 255), (.int c1)]) s1 EF := fun t k => pre13 t (by
   refine X8.caload hx (j := 1) (v := (.int c1)) (hp e8 Ar14) (State.isArrayOf_alike hZ.alike Ar14.2.1) Ar14.2.2 hin14 hat14 (g := (mkF m 12 #[rv a1, iv 1, rv a2, iv 1, iv 10, iv 1, iv c0] [(.int 1), (.ref a1)])) rfl rfl (B d2_12) _ ?_
   refine XS.istore X8.here hx rfl (B d2_13) rfl (l' := #[rv a1, iv 1, rv a2, iv 1, iv 10, iv 1, iv c1]) rfl ?_
   refine XS.iload X8.here hx rfl (B d2_15) rfl ?_
   exact XS.sipush X8.here hx rfl (B d2_17) k)
  have pre16 : Go p e bl T8 (mkF m 26 #[rv a1, iv 1, rv a2, iv 1, iv 10, iv 1, iv c1] []) s1 EF := fun t k => pre15 t (XS.icmpYes X8.here hx rfl (pc0 := 20) (pc' := 26) rfl (B d2_20) rfl (flt (hle c1 (mg 1 rfl))).2.2.2 (by decide) (by decide) k)
  have pre17 : Go p e bl T8 (mkF m 31 #[rv a1, iv 1, rv a2, iv 1, iv 10, iv 1, iv c1] [(.int (c1.toInt8.toInt32)), (.int 1), (.ref a2)]) s1 EF := fun t k => pre16 t (by
   refine XS.aloadN X8.here hx rfl (B d2_26) rfl rfl ?_
   refine XS.iloadN X8.here hx rfl (B d2_27) rfl ?_
   refine XS.iload X8.here hx rfl (B d2_28) rfl ?_
   exact XS.i2b X8.here hx rfl (B d2_30) rfl k)
  obtain ⟨cl18, Ar18, q18, Sz18, M18, H18, G18⟩ := id V8
  have hin18 := inb_of (j := (1 : Int32)) Sz18 ⟨by decide, by decide⟩
  obtain ⟨T18, h18, X18, e18, W18, st18⟩ := stB X8 hx hZ e8 Ar18 (j := 1) hin18 (g := (mkF m 31 #[rv a1, iv 1, rv a2, iv 1, iv 10, iv 1, iv c1] [(.int (c1.toInt8.toInt32)), (.int 1), (.ref a2)])) rfl rfl (B d2_31)
  rw [own_i2b2] at W18
  have pre19 : Go p e bl T18 (mkF m 32 #[rv a1, iv 1, rv a2, iv 1, iv 10, iv 1, iv c1] []) s1 EF := fun t k => pre17 t (st18 t k)
  have O20 : Old Z n0 h18 := O10.wr W18 g_a2
  have Z20 : n0 ≤ h18.size := Nat.le_trans Z10 (Keep.of_wr W18).1
  have K20 : Keep h0 h18 [a2] := K10.wr W18 (Or.inl (mg 0 rfl))
  have V18 : Arv Z h18 a2 k2 .byte (10 : Int32) [(.int (c0.toInt8.toInt32)), (.int (c1.toInt8.toInt32)), (.int 0), (.int 0), (.int 0), (.int 0), (.int 0), (.int 0), (.int 0), (.int 0)] (.int 0) := Arv.set Ar18 q18 Sz18 M18 H18 G18 (fits_nar_byte _) W18 1 rfl (wl rfl)
  have N18 := Fr.snoc X18 N8 g_a2
  have pre21 : Go p e bl T18 (mkF m 7 #[rv a1, iv 2, rv a2, iv 2, iv 10, iv 2, iv c1] [(.int 10), (.int 2)]) s1 EF := fun t k => pre19 t (by
   refine XS.iinc X18.here hx rfl (B d2_32) rfl (l' := #[rv a1, iv 2, rv a2, iv 1, iv 10, iv 1, iv c1]) rfl ?_
   refine XS.iinc X18.here hx rfl (B d2_35) rfl (l' := #[rv a1, iv 2, rv a2, iv 2, iv 10, iv 1, iv c1]) rfl ?_
   refine XS.iinc X18.here hx rfl (B d2_38) rfl (l' := #[rv a1, iv 2, rv a2, iv 2, iv 10, iv 2, iv c1]) rfl ?_
   refine XS.goto X18.here hx rfl (pc0 := 41) (pc' := 3) rfl (B d2_41) (by decide) (by decide) ?_
   refine XS.iload X18.here hx rfl (B d2_3) rfl ?_
   exact XS.iload X18.here hx rfl (B d2_5) rfl k)
  have pre22 : Go p e bl T18 (mkF m 10 #[rv a1, iv 2, rv a2, iv 2, iv 10, iv 2, iv c1] []) s1 EF := fun t k => pre21 t (XS.icmpNo X18.here hx rfl (B d2_7) rfl (tlt (by decide : (2 : Int32) < (10 : Int32))).2.1 k)
  have pre23 : Go p e bl T18 (mkF m 12 #[rv a1, iv 2, rv a2, iv 2, iv 10, iv 2, iv c1] [(.int 2), (.ref a1)]) s1 EF := fun t k => pre22 t (by
   refine XS.aloadN X18.here hx rfl (B d2_10) rfl rfl ?_
   exact XS.iloadN X18.here hx rfl (B d2_11) rfl k)
  obtain ⟨cl24, Ar24, q24, Sz24, M24, H24, G24⟩ := id ((V1.other W8 ne12).other W18 ne12)
  have hin24 := inb_of (j := (2 : Int32)) Sz24 ⟨by decide, by decide⟩
  have hat24 := Has.at (v := (.int c2)) H24 hin24 rfl
  have pre25 : Go p e bl T18 (mkF m 20 #[rv a1, iv 2, rv a2, iv 2, iv 10, iv 2, iv c2] [(.int 255), (.int c2)]) s1 EF := fun t k => pre23 t (by
   refine X18.caload hx (j := 2) (v := (.int c2)) (hp e18 Ar24) (State.isArrayOf_alike hZ.alike Ar24.2.1) Ar24.2.2 hin24 hat24 (g := (mkF m 12 #[rv a1, iv 2, rv a2, iv 2, iv 10, iv 2, iv c1] [(.int 2), (.ref a1)])) rfl rfl (B d2_12) _ ?_
   refine XS.istore X18.here hx rfl (B d2_13) rfl (l' := #[rv a1, iv 2, rv a2, iv 2, iv 10, iv 2, iv c2]) rfl ?_
   refine XS.iload X18.here hx rfl (B d2_15) rfl ?_
   exact XS.sipush X18.here hx rfl (B d2_17) k)
  have pre26 : Go p e bl T18 (mkF m 26 #[rv a1, iv 2, rv a2, iv 2, iv 10, iv 2, iv c2] []) s1 EF := fun t k => pre25 t (XS.icmpYes X18.here hx rfl (pc0 := 20) (pc' := 26) rfl (B d2_20) rfl (flt (hle c2 (mg 2 rfl))).2.2.2 (by decide) (by decide) k)
  have pre27 : Go p e bl T18 (mkF m 31 #[rv a1, iv 2, rv a2, iv 2, iv 10, iv 2, iv c2] [(.int (c2.toInt8.toInt32)), (.int 2), (.ref a2)]) s1 EF := fun t k => pre26 t (by
   refine XS.aloadN X18.here hx rfl (B d2_26) rfl rfl ?_
   refine XS.iloadN X18.here hx rfl (B d2_27) rfl ?_
   refine XS.iload X18.here hx rfl (B d2_28) rfl ?_
   exact XS.i2b X18.here hx rfl (B d2_30) rfl k)
  obtain ⟨cl28, Ar28, q28, Sz28, M28, H28, G28⟩ := id V18
  have hin28 := inb_of (j := (2 : Int32)) Sz28 ⟨by decide, by decide⟩
  obtain ⟨T28, h28, X28, e28, W28, st28⟩ := stB X18 hx hZ e18 Ar28 (j := 2) hin28 (g := (mkF m 31 #[rv a1, iv 2, rv a2, iv 2, iv 10, iv 2, iv c2] [(.int (c2.toInt8.toInt32)), (.int 2), (.ref a2)])) rfl rfl (B d2_31)
  rw [own_i2b2] at W28
  have pre29 : Go p e bl T28 (mkF m 32 #[rv a1, iv 2, rv a2, iv 2, iv 10, iv 2, iv c2] []) s1 EF := fun t k => pre27 t (st28 t k)
  have O30 : Old Z n0 h28 := O20.wr W28 g_a2
  have Z30 : n0 ≤ h28.size := Nat.le_trans Z20 (Keep.of_wr W28).1
  have K30 : Keep h0 h28 [a2] := K20.wr W28 (Or.inl (mg 0 rfl))
  have V28 : Arv Z h28 a2 k2 .byte (10 : Int32) [(.int (c0.toInt8.toInt32)), (.int (c1.toInt8.toInt32)), (.int (c2.toInt8.toInt32)), (.int 0), (.int 0), (.int 0), (.int 0), (.int 0), (.int 0), (.int 0)] (.int 0) := Arv.set Ar28 q28 Sz28 M28 H28 G28 (fits_nar_byte _) W28 2 rfl (wl rfl)
  have N28 := Fr.snoc X28 N18 g_a2
  have pre31 : Go p e bl T28 (mkF m 7 #[rv a1, iv 3, rv a2, iv 3, iv 10, iv 3, iv c2] [(.int 10), (.int 3)]) s1 EF := fun t k => pre29 t (by
   refine XS.iinc X28.here hx rfl (B d2_32) rfl (l' := #[rv a1, iv 3, rv a2, iv 2, iv 10, iv 2, iv c2]) rfl ?_
   refine XS.iinc X28.here hx rfl (B d2_35) rfl (l' := #[rv a1, iv 3, rv a2, iv 3, iv 10, iv 2, iv c2]) rfl ?_
   refine XS.iinc X28.here hx rfl (B d2_38) rfl (l' := #[rv a1, iv 3, rv a2, iv 3, iv 10, iv 3, iv c2]) rfl ?_
   refine XS.goto X28.here hx rfl (pc0 := 41) (pc' := 3) rfl (B d2_41) (by decide) (by decide) ?_
   refine XS.iload X28.here hx rfl (B d2_3) rfl ?_
   exact XS.iload X28.here hx rfl (B d2_5) rfl k)
  have pre32 : Go p e bl T28 (mkF m 10 #[rv a1, iv 3, rv a2, iv 3, iv 10, iv 3, iv c2] []) s1 EF := fun t k => pre31 t (XS.icmpNo X28.here hx rfl (B d2_7) rfl (tlt (by decide : (3 : Int32) < (10 : Int32))).2.1 k)
  have pre33 : Go p e bl T28 (mkF m 12 #[rv a1, iv 3, rv a2, iv 3, iv 10, iv 3, iv c2] [(.int 3), (.ref a1)]) s1 EF := fun t k => pre32 t (by
   refine XS.aloadN X28.here hx rfl (B d2_10) rfl rfl ?_
   exact XS.iloadN X28.here hx rfl (B d2_11) rfl k)
  obtain ⟨cl34, Ar34, q34, Sz34, M34, H34, G34⟩ := id (((V1.other W8 ne12).other W18 ne12).other W28 ne12)
  have hin34 := inb_of (j := (3 : Int32)) Sz34 ⟨by decide, by decide⟩
  have hat34 := Has.at (v := (.int c3)) H34 hin34 rfl
  have pre35 : Go p e bl T28 (mkF m 20 #[rv a1, iv 3, rv a2, iv 3, iv 10, iv 3, iv c3] [(.int 255), (.int c3)]) s1 EF := fun t k => pre33 t (by
   refine X28.caload hx (j := 3) (v := (.int c3)) (hp e28 Ar34) (State.isArrayOf_alike hZ.alike Ar34.2.1) Ar34.2.2 hin34 hat34 (g := (mkF m 12 #[rv a1, iv 3, rv a2, iv 3, iv 10, iv 3, iv c2] [(.int 3), (.ref a1)])) rfl rfl (B d2_12) _ ?_
   refine XS.istore X28.here hx rfl (B d2_13) rfl (l' := #[rv a1, iv 3, rv a2, iv 3, iv 10, iv 3, iv c3]) rfl ?_
   refine XS.iload X28.here hx rfl (B d2_15) rfl ?_
   exact XS.sipush X28.here hx rfl (B d2_17) k)
  have pre36 : Go p e bl T28 (mkF m 26 #[rv a1, iv 3, rv a2, iv 3, iv 10, iv 3, iv c3] []) s1 EF := fun t k => pre35 t (XS.icmpYes X28.here hx rfl (pc0 := 20) (pc' := 26) rfl (B d2_20) rfl (flt (hle c3 (mg 3 rfl))).2.2.2 (by decide) (by decide) k)
  have pre37 : Go p e bl T28 (mkF m 31 #[rv a1, iv 3, rv a2, iv 3, iv 10, iv 3, iv c3] [(.int (c3.toInt8.toInt32)), (.int 3), (.ref a2)]) s1 EF := fun t k => pre36 t (by
   refine XS.aloadN X28.here hx rfl (B d2_26) rfl rfl ?_
   refine XS.iloadN X28.here hx rfl (B d2_27) rfl ?_
   refine XS.iload X28.here hx rfl (B d2_28) rfl ?_
   exact XS.i2b X28.here hx rfl (B d2_30) rfl k)
  obtain ⟨cl38, Ar38, q38, Sz38, M38, H38, G38⟩ := id V28
  have hin38 := inb_of (j := (3 : Int32)) Sz38 ⟨by decide, by decide⟩
  obtain ⟨T38, h38, X38, e38, W38, st38⟩ := stB X28 hx hZ e28 Ar38 (j := 3) hin38 (g := (mkF m 31 #[rv a1, iv 3, rv a2, iv 3, iv 10, iv 3, iv c3] [(.int (c3.toInt8.toInt32)), (.int 3), (.ref a2)])) rfl rfl (B d2_31)
  rw [own_i2b2] at W38
  have pre39 : Go p e bl T38 (mkF m 32 #[rv a1, iv 3, rv a2, iv 3, iv 10, iv 3, iv c3] []) s1 EF := fun t k => pre37 t (st38 t k)
  have O40 : Old Z n0 h38 := O30.wr W38 g_a2
  have Z40 : n0 ≤ h38.size := Nat.le_trans Z30 (Keep.of_wr W38).1
  have K40 : Keep h0 h38 [a2] := K30.wr W38 (Or.inl (mg 0 rfl))
  have V38 : Arv Z h38 a2 k2 .byte (10 : Int32) [(.int (c0.toInt8.toInt32)), (.int (c1.toInt8.toInt32)), (.int (c2.toInt8.toInt32)), (.int (c3.toInt8.toInt32)), (.int 0), (.int 0), (.int 0), (.int 0), (.int 0), (.int 0)] (.int 0) := Arv.set Ar38 q38 Sz38 M38 H38 G38 (fits_nar_byte _) W38 3 rfl (wl rfl)
  have N38 := Fr.snoc X38 N28 g_a2
  have pre41 : Go p e bl T38 (mkF m 7 #[rv a1, iv 4, rv a2, iv 4, iv 10, iv 4, iv c3] [(.int 10), (.int 4)]) s1 EF := fun t k => pre39 t (by
   refine XS.iinc X38.here hx rfl (B d2_32) rfl (l' := #[rv a1, iv 4, rv a2, iv 3, iv 10, iv 3, iv c3]) rfl ?_
   refine XS.iinc X38.here hx rfl (B d2_35) rfl (l' := #[rv a1, iv 4, rv a2, iv 4, iv 10, iv 3, iv c3]) rfl ?_
   refine XS.iinc X38.here hx rfl (B d2_38) rfl (l' := #[rv a1, iv 4, rv a2, iv 4, iv 10, iv 4, iv c3]) rfl ?_
   refine XS.goto X38.here hx rfl (pc0 := 41) (pc' := 3) rfl (B d2_41) (by decide) (by decide) ?_
   refine XS.iload X38.here hx rfl (B d2_3) rfl ?_
   exact XS.iload X38.here hx rfl (B d2_5) rfl k)
  have pre42 : Go p e bl T38 (mkF m 10 #[rv a1, iv 4, rv a2, iv 4, iv 10, iv 4, iv c3] []) s1 EF := fun t k => pre41 t (XS.icmpNo X38.here hx rfl (B d2_7) rfl (tlt (by decide : (4 : Int32) < (10 : Int32))).2.1 k)
  have pre43 : Go p e bl T38 (mkF m 12 #[rv a1, iv 4, rv a2, iv 4, iv 10, iv 4, iv c3] [(.int 4), (.ref a1)]) s1 EF := fun t k => pre42 t (by
   refine XS.aloadN X38.here hx rfl (B d2_10) rfl rfl ?_
   exact XS.iloadN X38.here hx rfl (B d2_11) rfl k)
  obtain ⟨cl44, Ar44, q44, Sz44, M44, H44, G44⟩ := id ((((V1.other W8 ne12).other W18 ne12).other W28 ne12).other W38 ne12)
  have hin44 := inb_of (j := (4 : Int32)) Sz44 ⟨by decide, by decide⟩
  have hat44 := Has.at (v := (.int c4)) H44 hin44 rfl
  have pre45 : Go p e bl T38 (mkF m 20 #[rv a1, iv 4, rv a2, iv 4, iv 10, iv 4, iv c4] [(.int 255), (.int c4)]) s1 EF := fun t k => pre43 t (by
   refine X38.caload hx (j := 4) (v := (.int c4)) (hp e38 Ar44) (State.isArrayOf_alike hZ.alike Ar44.2.1) Ar44.2.2 hin44 hat44 (g := (mkF m 12 #[rv a1, iv 4, rv a2, iv 4, iv 10, iv 4, iv c3] [(.int 4), (.ref a1)])) rfl rfl (B d2_12) _ ?_
   refine XS.istore X38.here hx rfl (B d2_13) rfl (l' := #[rv a1, iv 4, rv a2, iv 4, iv 10, iv 4, iv c4]) rfl ?_
   refine XS.iload X38.here hx rfl (B d2_15) rfl ?_
   exact XS.sipush X38.here hx rfl (B d2_17) k)
  have pre46 : Go p e bl T38 (mkF m 26 #[rv a1, iv 4, rv a2, iv 4, iv 10, iv 4, iv c4] []) s1 EF := fun t k => pre45 t (XS.icmpYes X38.here hx rfl (pc0 := 20) (pc' := 26) rfl (B d2_20) rfl (flt (hle c4 (mg 4 rfl))).2.2.2 (by decide) (by decide) k)
  have pre47 : Go p e bl T38 (mkF m 31 #[rv a1, iv 4, rv a2, iv 4, iv 10, iv 4, iv c4] [(.int (c4.toInt8.toInt32)), (.int 4), (.ref a2)]) s1 EF := fun t k => pre46 t (by
   refine XS.aloadN X38.here hx rfl (B d2_26) rfl rfl ?_
   refine XS.iloadN X38.here hx rfl (B d2_27) rfl ?_
   refine XS.iload X38.here hx rfl (B d2_28) rfl ?_
   exact XS.i2b X38.here hx rfl (B d2_30) rfl k)
  obtain ⟨cl48, Ar48, q48, Sz48, M48, H48, G48⟩ := id V38
  have hin48 := inb_of (j := (4 : Int32)) Sz48 ⟨by decide, by decide⟩
  obtain ⟨T48, h48, X48, e48, W48, st48⟩ := stB X38 hx hZ e38 Ar48 (j := 4) hin48 (g := (mkF m 31 #[rv a1, iv 4, rv a2, iv 4, iv 10, iv 4, iv c4] [(.int (c4.toInt8.toInt32)), (.int 4), (.ref a2)])) rfl rfl (B d2_31)
  rw [own_i2b2] at W48
  have pre49 : Go p e bl T48 (mkF m 32 #[rv a1, iv 4, rv a2, iv 4, iv 10, iv 4, iv c4] []) s1 EF := fun t k => pre47 t (st48 t k)
  have O50 : Old Z n0 h48 := O40.wr W48 g_a2
  have Z50 : n0 ≤ h48.size := Nat.le_trans Z40 (Keep.of_wr W48).1
  have K50 : Keep h0 h48 [a2] := K40.wr W48 (Or.inl (mg 0 rfl))
  have V48 : Arv Z h48 a2 k2 .byte (10 : Int32) [(.int (c0.toInt8.toInt32)), (.int (c1.toInt8.toInt32)), (.int (c2.toInt8.toInt32)), (.int (c3.toInt8.toInt32)), (.int (c4.toInt8.toInt32)), (.int 0), (.int 0), (.int 0), (.int 0), (.int 0)] (.int 0) := Arv.set Ar48 q48 Sz48 M48 H48 G48 (fits_nar_byte _) W48 4 rfl (wl rfl)
  have N48 := Fr.snoc X48 N38 g_a2
  have pre51 : Go p e bl T48 (mkF m 7 #[rv a1, iv 5, rv a2, iv 5, iv 10, iv 5, iv c4] [(.int 10), (.int 5)]) s1 EF := fun t k => pre49 t (by
   refine XS.iinc X48.here hx rfl (B d2_32) rfl (l' := #[rv a1, iv 5, rv a2, iv 4, iv 10, iv 4, iv c4]) rfl ?_
   refine XS.iinc X48.here hx rfl (B d2_35) rfl (l' := #[rv a1, iv 5, rv a2, iv 5, iv 10, iv 4, iv c4]) rfl ?_
   refine XS.iinc X48.here hx rfl (B d2_38) rfl (l' := #[rv a1, iv 5, rv a2, iv 5, iv 10, iv 5, iv c4]) rfl ?_
   refine XS.goto X48.here hx rfl (pc0 := 41) (pc' := 3) rfl (B d2_41) (by decide) (by decide) ?_
   refine XS.iload X48.here hx rfl (B d2_3) rfl ?_
   exact XS.iload X48.here hx rfl (B d2_5) rfl k)
  have pre52 : Go p e bl T48 (mkF m 10 #[rv a1, iv 5, rv a2, iv 5, iv 10, iv 5, iv c4] []) s1 EF := fun t k => pre51 t (XS.icmpNo X48.here hx rfl (B d2_7) rfl (tlt (by decide : (5 : Int32) < (10 : Int32))).2.1 k)
  have pre53 : Go p e bl T48 (mkF m 12 #[rv a1, iv 5, rv a2, iv 5, iv 10, iv 5, iv c4] [(.int 5), (.ref a1)]) s1 EF := fun t k => pre52 t (by
   refine XS.aloadN X48.here hx rfl (B d2_10) rfl rfl ?_
   exact XS.iloadN X48.here hx rfl (B d2_11) rfl k)
  obtain ⟨cl54, Ar54, q54, Sz54, M54, H54, G54⟩ := id (((((V1.other W8 ne12).other W18 ne12).other W28 ne12).other W38 ne12).other W48 ne12)
  have hin54 := inb_of (j := (5 : Int32)) Sz54 ⟨by decide, by decide⟩
  have hat54 := Has.at (v := (.int c5)) H54 hin54 rfl
  have pre55 : Go p e bl T48 (mkF m 20 #[rv a1, iv 5, rv a2, iv 5, iv 10, iv 5, iv c5] [(.int 255), (.int c5)]) s1 EF := fun t k => pre53 t (by
   refine X48.caload hx (j := 5) (v := (.int c5)) (hp e48 Ar54) (State.isArrayOf_alike hZ.alike Ar54.2.1) Ar54.2.2 hin54 hat54 (g := (mkF m 12 #[rv a1, iv 5, rv a2, iv 5, iv 10, iv 5, iv c4] [(.int 5), (.ref a1)])) rfl rfl (B d2_12) _ ?_
   refine XS.istore X48.here hx rfl (B d2_13) rfl (l' := #[rv a1, iv 5, rv a2, iv 5, iv 10, iv 5, iv c5]) rfl ?_
   refine XS.iload X48.here hx rfl (B d2_15) rfl ?_
   exact XS.sipush X48.here hx rfl (B d2_17) k)
  have pre56 : Go p e bl T48 (mkF m 26 #[rv a1, iv 5, rv a2, iv 5, iv 10, iv 5, iv c5] []) s1 EF := fun t k => pre55 t (XS.icmpYes X48.here hx rfl (pc0 := 20) (pc' := 26) rfl (B d2_20) rfl (flt (hle c5 (mg 5 rfl))).2.2.2 (by decide) (by decide) k)
  have pre57 : Go p e bl T48 (mkF m 31 #[rv a1, iv 5, rv a2, iv 5, iv 10, iv 5, iv c5] [(.int (c5.toInt8.toInt32)), (.int 5), (.ref a2)]) s1 EF := fun t k => pre56 t (by
   refine XS.aloadN X48.here hx rfl (B d2_26) rfl rfl ?_
   refine XS.iloadN X48.here hx rfl (B d2_27) rfl ?_
   refine XS.iload X48.here hx rfl (B d2_28) rfl ?_
   exact XS.i2b X48.here hx rfl (B d2_30) rfl k)
  obtain ⟨cl58, Ar58, q58, Sz58, M58, H58, G58⟩ := id V48
  have hin58 := inb_of (j := (5 : Int32)) Sz58 ⟨by decide, by decide⟩
  obtain ⟨T58, h58, X58, e58, W58, st58⟩ := stB X48 hx hZ e48 Ar58 (j := 5) hin58 (g := (mkF m 31 #[rv a1, iv 5, rv a2, iv 5, iv 10, iv 5, iv c5] [(.int (c5.toInt8.toInt32)), (.int 5), (.ref a2)])) rfl rfl (B d2_31)
  rw [own_i2b2] at W58
  have pre59 : Go p e bl T58 (mkF m 32 #[rv a1, iv 5, rv a2, iv 5, iv 10, iv 5, iv c5] []) s1 EF := fun t k => pre57 t (st58 t k)
  have O60 : Old Z n0 h58 := O50.wr W58 g_a2
  have Z60 : n0 ≤ h58.size := Nat.le_trans Z50 (Keep.of_wr W58).1
  have K60 : Keep h0 h58 [a2] := K50.wr W58 (Or.inl (mg 0 rfl))
  have V58 : Arv Z h58 a2 k2 .byte (10 : Int32) [(.int (c0.toInt8.toInt32)), (.int (c1.toInt8.toInt32)), (.int (c2.toInt8.toInt32)), (.int (c3.toInt8.toInt32)), (.int (c4.toInt8.toInt32)), (.int (c5.toInt8.toInt32)), (.int 0), (.int 0), (.int 0), (.int 0)] (.int 0) := Arv.set Ar58 q58 Sz58 M58 H58 G58 (fits_nar_byte _) W58 5 rfl (wl rfl)
  have N58 := Fr.snoc X58 N48 g_a2
  have pre61 : Go p e bl T58 (mkF m 7 #[rv a1, iv 6, rv a2, iv 6, iv 10, iv 6, iv c5] [(.int 10), (.int 6)]) s1 EF := fun t k => pre59 t (by
   refine XS.iinc X58.here hx rfl (B d2_32) rfl (l' := #[rv a1, iv 6, rv a2, iv 5, iv 10, iv 5, iv c5]) rfl ?_
   refine XS.iinc X58.here hx rfl (B d2_35) rfl (l' := #[rv a1, iv 6, rv a2, iv 6, iv 10, iv 5, iv c5]) rfl ?_
   refine XS.iinc X58.here hx rfl (B d2_38) rfl (l' := #[rv a1, iv 6, rv a2, iv 6, iv 10, iv 6, iv c5]) rfl ?_
   refine XS.goto X58.here hx rfl (pc0 := 41) (pc' := 3) rfl (B d2_41) (by decide) (by decide) ?_
   refine XS.iload X58.here hx rfl (B d2_3) rfl ?_
   exact XS.iload X58.here hx rfl (B d2_5) rfl k)
  have pre62 : Go p e bl T58 (mkF m 10 #[rv a1, iv 6, rv a2, iv 6, iv 10, iv 6, iv c5] []) s1 EF := fun t k => pre61 t (XS.icmpNo X58.here hx rfl (B d2_7) rfl (tlt (by decide : (6 : Int32) < (10 : Int32))).2.1 k)
  have pre63 : Go p e bl T58 (mkF m 12 #[rv a1, iv 6, rv a2, iv 6, iv 10, iv 6, iv c5] [(.int 6), (.ref a1)]) s1 EF := fun t k => pre62 t (by
   refine XS.aloadN X58.here hx rfl (B d2_10) rfl rfl ?_
   exact XS.iloadN X58.here hx rfl (B d2_11) rfl k)
  obtain ⟨cl64, Ar64, q64, Sz64, M64, H64, G64⟩ := id ((((((V1.other W8 ne12).other W18 ne12).other W28 ne12).other W38 ne12).other W48 ne12).other W58 ne12)
  have hin64 := inb_of (j := (6 : Int32)) Sz64 ⟨by decide, by decide⟩
  have hat64 := Has.at (v := (.int c6)) H64 hin64 rfl
  have pre65 : Go p e bl T58 (mkF m 20 #[rv a1, iv 6, rv a2, iv 6, iv 10, iv 6, iv c6] [(.int 255), (.int c6)]) s1 EF := fun t k => pre63 t (by
   refine X58.caload hx (j := 6) (v := (.int c6)) (hp e58 Ar64) (State.isArrayOf_alike hZ.alike Ar64.2.1) Ar64.2.2 hin64 hat64 (g := (mkF m 12 #[rv a1, iv 6, rv a2, iv 6, iv 10, iv 6, iv c5] [(.int 6), (.ref a1)])) rfl rfl (B d2_12) _ ?_
   refine XS.istore X58.here hx rfl (B d2_13) rfl (l' := #[rv a1, iv 6, rv a2, iv 6, iv 10, iv 6, iv c6]) rfl ?_
   refine XS.iload X58.here hx rfl (B d2_15) rfl ?_
   exact XS.sipush X58.here hx rfl (B d2_17) k)
  have pre66 : Go p e bl T58 (mkF m 26 #[rv a1, iv 6, rv a2, iv 6, iv 10, iv 6, iv c6] []) s1 EF := fun t k => pre65 t (XS.icmpYes X58.here hx rfl (pc0 := 20) (pc' := 26) rfl (B d2_20) rfl (flt (hle c6 (mg 6 rfl))).2.2.2 (by decide) (by decide) k)
  have pre67 : Go p e bl T58 (mkF m 31 #[rv a1, iv 6, rv a2, iv 6, iv 10, iv 6, iv c6] [(.int (c6.toInt8.toInt32)), (.int 6), (.ref a2)]) s1 EF := fun t k => pre66 t (by
   refine XS.aloadN X58.here hx rfl (B d2_26) rfl rfl ?_
   refine XS.iloadN X58.here hx rfl (B d2_27) rfl ?_
   refine XS.iload X58.here hx rfl (B d2_28) rfl ?_
   exact XS.i2b X58.here hx rfl (B d2_30) rfl k)
  obtain ⟨cl68, Ar68, q68, Sz68, M68, H68, G68⟩ := id V58
  have hin68 := inb_of (j := (6 : Int32)) Sz68 ⟨by decide, by decide⟩
  obtain ⟨T68, h68, X68, e68, W68, st68⟩ := stB X58 hx hZ e58 Ar68 (j := 6) hin68 (g := (mkF m 31 #[rv a1, iv 6, rv a2, iv 6, iv 10, iv 6, iv c6] [(.int (c6.toInt8.toInt32)), (.int 6), (.ref a2)])) rfl rfl (B d2_31)
  rw [own_i2b2] at W68
  have pre69 : Go p e bl T68 (mkF m 32 #[rv a1, iv 6, rv a2, iv 6, iv 10, iv 6, iv c6] []) s1 EF := fun t k => pre67 t (st68 t k)
  have O70 : Old Z n0 h68 := O60.wr W68 g_a2
  have Z70 : n0 ≤ h68.size := Nat.le_trans Z60 (Keep.of_wr W68).1
  have K70 : Keep h0 h68 [a2] := K60.wr W68 (Or.inl (mg 0 rfl))
  have V68 : Arv Z h68 a2 k2 .byte (10 : Int32) [(.int (c0.toInt8.toInt32)), (.int (c1.toInt8.toInt32)), (.int (c2.toInt8.toInt32)), (.int (c3.toInt8.toInt32)), (.int (c4.toInt8.toInt32)), (.int (c5.toInt8.toInt32)), (.int (c6.toInt8.toInt32)), (.int 0), (.int 0), (.int 0)] (.int 0) := Arv.set Ar68 q68 Sz68 M68 H68 G68 (fits_nar_byte _) W68 6 rfl (wl rfl)
  have N68 := Fr.snoc X68 N58 g_a2
  have pre71 : Go p e bl T68 (mkF m 7 #[rv a1, iv 7, rv a2, iv 7, iv 10, iv 7, iv c6] [(.int 10), (.int 7)]) s1 EF := fun t k => pre69 t (by
   refine XS.iinc X68.here hx rfl (B d2_32) rfl (l' := #[rv a1, iv 7, rv a2, iv 6, iv 10, iv 6, iv c6]) rfl ?_
   refine XS.iinc X68.here hx rfl (B d2_35) rfl (l' := #[rv a1, iv 7, rv a2, iv 7, iv 10, iv 6, iv c6]) rfl ?_
   refine XS.iinc X68.here hx rfl (B d2_38) rfl (l' := #[rv a1, iv 7, rv a2, iv 7, iv 10, iv 7, iv c6]) rfl ?_
   refine XS.goto X68.here hx rfl (pc0 := 41) (pc' := 3) rfl (B d2_41) (by decide) (by decide) ?_
   refine XS.iload X68.here hx rfl (B d2_3) rfl ?_
   exact XS.iload X68.here hx rfl (B d2_5) rfl k)
  have pre72 : Go p e bl T68 (mkF m 10 #[rv a1, iv 7, rv a2, iv 7, iv 10, iv 7, iv c6] []) s1 EF := fun t k => pre71 t (XS.icmpNo X68.here hx rfl (B d2_7) rfl (tlt (by decide : (7 : Int32) < (10 : Int32))).2.1 k)
  have pre73 : Go p e bl T68 (mkF m 12 #[rv a1, iv 7, rv a2, iv 7, iv 10, iv 7, iv c6] [(.int 7), (.ref a1)]) s1 EF := fun t k => pre72 t (by
   refine XS.aloadN X68.here hx rfl (B d2_10) rfl rfl ?_
   exact XS.iloadN X68.here hx rfl (B d2_11) rfl k)
  obtain ⟨cl74, Ar74, q74, Sz74, M74, H74, G74⟩ := id (((((((V1.other W8 ne12).other W18 ne12).other W28 ne12).other W38 ne12).other W48 ne12).other W58 ne12).other W68 ne12)
  have hin74 := inb_of (j := (7 : Int32)) Sz74 ⟨by decide, by decide⟩
  have hat74 := Has.at (v := (.int c7)) H74 hin74 rfl
  have pre75 : Go p e bl T68 (mkF m 20 #[rv a1, iv 7, rv a2, iv 7, iv 10, iv 7, iv c7] [(.int 255), (.int c7)]) s1 EF := fun t k => pre73 t (by
   refine X68.caload hx (j := 7) (v := (.int c7)) (hp e68 Ar74) (State.isArrayOf_alike hZ.alike Ar74.2.1) Ar74.2.2 hin74 hat74 (g := (mkF m 12 #[rv a1, iv 7, rv a2, iv 7, iv 10, iv 7, iv c6] [(.int 7), (.ref a1)])) rfl rfl (B d2_12) _ ?_
   refine XS.istore X68.here hx rfl (B d2_13) rfl (l' := #[rv a1, iv 7, rv a2, iv 7, iv 10, iv 7, iv c7]) rfl ?_
   refine XS.iload X68.here hx rfl (B d2_15) rfl ?_
   exact XS.sipush X68.here hx rfl (B d2_17) k)
  have pre76 : Go p e bl T68 (mkF m 26 #[rv a1, iv 7, rv a2, iv 7, iv 10, iv 7, iv c7] []) s1 EF := fun t k => pre75 t (XS.icmpYes X68.here hx rfl (pc0 := 20) (pc' := 26) rfl (B d2_20) rfl (flt (hle c7 (mg 7 rfl))).2.2.2 (by decide) (by decide) k)
  have pre77 : Go p e bl T68 (mkF m 31 #[rv a1, iv 7, rv a2, iv 7, iv 10, iv 7, iv c7] [(.int (c7.toInt8.toInt32)), (.int 7), (.ref a2)]) s1 EF := fun t k => pre76 t (by
   refine XS.aloadN X68.here hx rfl (B d2_26) rfl rfl ?_
   refine XS.iloadN X68.here hx rfl (B d2_27) rfl ?_
   refine XS.iload X68.here hx rfl (B d2_28) rfl ?_
   exact XS.i2b X68.here hx rfl (B d2_30) rfl k)
  obtain ⟨cl78, Ar78, q78, Sz78, M78, H78, G78⟩ := id V68
  have hin78 := inb_of (j := (7 : Int32)) Sz78 ⟨by decide, by decide⟩
  obtain ⟨T78, h78, X78, e78, W78, st78⟩ := stB X68 hx hZ e68 Ar78 (j := 7) hin78 (g := (mkF m 31 #[rv a1, iv 7, rv a2, iv 7, iv 10, iv 7, iv c7] [(.int (c7.toInt8.toInt32)), (.int 7), (.ref a2)])) rfl rfl (B d2_31)
  rw [own_i2b2] at W78
  have pre79 : Go p e bl T78 (mkF m 32 #[rv a1, iv 7, rv a2, iv 7, iv 10, iv 7, iv c7] []) s1 EF := fun t k => pre77 t (st78 t k)
  have O80 : Old Z n0 h78 := O70.wr W78 g_a2
  have Z80 : n0 ≤ h78.size := Nat.le_trans Z70 (Keep.of_wr W78).1
  have K80 : Keep h0 h78 [a2] := K70.wr W78 (Or.inl (mg 0 rfl))
  have V78 : Arv Z h78 a2 k2 .byte (10 : Int32) [(.int (c0.toInt8.toInt32)), (.int (c1.toInt8.toInt32)), (.int (c2.toInt8.toInt32)), (.int (c3.toInt8.toInt32)), (.int (c4.toInt8.toInt32)), (.int (c5.toInt8.toInt32)), (.int (c6.toInt8.toInt32)), (.int (c7.toInt8.toInt32)), (.int 0), (.int 0)] (.int 0) := Arv.set Ar78 q78 Sz78 M78 H78 G78 (fits_nar_byte _) W78 7 rfl (wl rfl)
  have N78 := Fr.snoc X78 N68 g_a2
  have pre81 : Go p e bl T78 (mkF m 7 #[rv a1, iv 8, rv a2, iv 8, iv 10, iv 8, iv c7] [(.int 10), (.int 8)]) s1 EF := fun t k => pre79 t (by
   refine XS.iinc X78.here hx rfl (B d2_32) rfl (l' := #[rv a1, iv 8, rv a2, iv 7, iv 10, iv 7, iv c7]) rfl ?_
   refine XS.iinc X78.here hx rfl (B d2_35) rfl (l' := #[rv a1, iv 8, rv a2, iv 8, iv 10, iv 7, iv c7]) rfl ?_
   refine XS.iinc X78.here hx rfl (B d2_38) rfl (l' := #[rv a1, iv 8, rv a2, iv 8, iv 10, iv 8, iv c7]) rfl ?_
   refine XS.goto X78.here hx rfl (pc0 := 41) (pc' := 3) rfl (B d2_41) (by decide) (by decide) ?_
   refine XS.iload X78.here hx rfl (B d2_3) rfl ?_
   exact XS.iload X78.here hx rfl (B d2_5) rfl k)
  have pre82 : Go p e bl T78 (mkF m 10 #[rv a1, iv 8, rv a2, iv 8, iv 10, iv 8, iv c7] []) s1 EF := fun t k => pre81 t (XS.icmpNo X78.here hx rfl (B d2_7) rfl (tlt (by decide : (8 : Int32) < (10 : Int32))).2.1 k)
  have pre83 : Go p e bl T78 (mkF m 12 #[rv a1, iv 8, rv a2, iv 8, iv 10, iv 8, iv c7] [(.int 8), (.ref a1)]) s1 EF := fun t k => pre82 t (by
   refine XS.aloadN X78.here hx rfl (B d2_10) rfl rfl ?_
   exact XS.iloadN X78.here hx rfl (B d2_11) rfl k)
  obtain ⟨cl84, Ar84, q84, Sz84, M84, H84, G84⟩ := id ((((((((V1.other W8 ne12).other W18 ne12).other W28 ne12).other W38 ne12).other W48 ne12).other W58 ne12).other W68 ne12).other W78 ne12)
  have hin84 := inb_of (j := (8 : Int32)) Sz84 ⟨by decide, by decide⟩
  have hat84 := Has.at (v := (.int c8)) H84 hin84 rfl
  have pre85 : Go p e bl T78 (mkF m 20 #[rv a1, iv 8, rv a2, iv 8, iv 10, iv 8, iv c8] [(.int 255), (.int c8)]) s1 EF := fun t k => pre83 t (by
   refine X78.caload hx (j := 8) (v := (.int c8)) (hp e78 Ar84) (State.isArrayOf_alike hZ.alike Ar84.2.1) Ar84.2.2 hin84 hat84 (g := (mkF m 12 #[rv a1, iv 8, rv a2, iv 8, iv 10, iv 8, iv c7] [(.int 8), (.ref a1)])) rfl rfl (B d2_12) _ ?_
   refine XS.istore X78.here hx rfl (B d2_13) rfl (l' := #[rv a1, iv 8, rv a2, iv 8, iv 10, iv 8, iv c8]) rfl ?_
   refine XS.iload X78.here hx rfl (B d2_15) rfl ?_
   exact XS.sipush X78.here hx rfl (B d2_17) k)
  have pre86 : Go p e bl T78 (mkF m 26 #[rv a1, iv 8, rv a2, iv 8, iv 10, iv 8, iv c8] []) s1 EF := fun t k => pre85 t (XS.icmpYes X78.here hx rfl (pc0 := 20) (pc' := 26) rfl (B d2_20) rfl (flt (hle c8 (mg 8 rfl))).2.2.2 (by decide) (by decide) k)
  have pre87 : Go p e bl T78 (mkF m 31 #[rv a1, iv 8, rv a2, iv 8, iv 10, iv 8, iv c8] [(.int (c8.toInt8.toInt32)), (.int 8), (.ref a2)]) s1 EF := fun t k => pre86 t (by
   refine XS.aloadN X78.here hx rfl (B d2_26) rfl rfl ?_
   refine XS.iloadN X78.here hx rfl (B d2_27) rfl ?_
   refine XS.iload X78.here hx rfl (B d2_28) rfl ?_
   exact XS.i2b X78.here hx rfl (B d2_30) rfl k)
  obtain ⟨cl88, Ar88, q88, Sz88, M88, H88, G88⟩ := id V78
  have hin88 := inb_of (j := (8 : Int32)) Sz88 ⟨by decide, by decide⟩
  obtain ⟨T88, h88, X88, e88, W88, st88⟩ := stB X78 hx hZ e78 Ar88 (j := 8) hin88 (g := (mkF m 31 #[rv a1, iv 8, rv a2, iv 8, iv 10, iv 8, iv c8] [(.int (c8.toInt8.toInt32)), (.int 8), (.ref a2)])) rfl rfl (B d2_31)
  rw [own_i2b2] at W88
  have pre89 : Go p e bl T88 (mkF m 32 #[rv a1, iv 8, rv a2, iv 8, iv 10, iv 8, iv c8] []) s1 EF := fun t k => pre87 t (st88 t k)
  have O90 : Old Z n0 h88 := O80.wr W88 g_a2
  have Z90 : n0 ≤ h88.size := Nat.le_trans Z80 (Keep.of_wr W88).1
  have K90 : Keep h0 h88 [a2] := K80.wr W88 (Or.inl (mg 0 rfl))
  have V88 : Arv Z h88 a2 k2 .byte (10 : Int32) [(.int (c0.toInt8.toInt32)), (.int (c1.toInt8.toInt32)), (.int (c2.toInt8.toInt32)), (.int (c3.toInt8.toInt32)), (.int (c4.toInt8.toInt32)), (.int (c5.toInt8.toInt32)), (.int (c6.toInt8.toInt32)), (.int (c7.toInt8.toInt32)), (.int (c8.toInt8.toInt32)), (.int 0)] (.int 0) := Arv.set Ar88 q88 Sz88 M88 H88 G88 (fits_nar_byte _) W88 8 rfl (wl rfl)
  have N88 := Fr.snoc X88 N78 g_a2
  have pre91 : Go p e bl T88 (mkF m 7 #[rv a1, iv 9, rv a2, iv 9, iv 10, iv 9, iv c8] [(.int 10), (.int 9)]) s1 EF := fun t k => pre89 t (by
   refine XS.iinc X88.here hx rfl (B d2_32) rfl (l' := #[rv a1, iv 9, rv a2, iv 8, iv 10, iv 8, iv c8]) rfl ?_
   refine XS.iinc X88.here hx rfl (B d2_35) rfl (l' := #[rv a1, iv 9, rv a2, iv 9, iv 10, iv 8, iv c8]) rfl ?_
   refine XS.iinc X88.here hx rfl (B d2_38) rfl (l' := #[rv a1, iv 9, rv a2, iv 9, iv 10, iv 9, iv c8]) rfl ?_
   refine XS.goto X88.here hx rfl (pc0 := 41) (pc' := 3) rfl (B d2_41) (by decide) (by decide) ?_
   refine XS.iload X88.here hx rfl (B d2_3) rfl ?_
   exact XS.iload X88.here hx rfl (B d2_5) rfl k)
  have pre92 : Go p e bl T88 (mkF m 10 #[rv a1, iv 9, rv a2, iv 9, iv 10, iv 9, iv c8] []) s1 EF := fun t k => pre91 t (XS.icmpNo X88.here hx rfl (B d2_7) rfl (tlt (by decide : (9 : Int32) < (10 : Int32))).2.1 k)
  have pre93 : Go p e bl T88 (mkF m 12 #[rv a1, iv 9, rv a2, iv 9, iv 10, iv 9, iv c8] [(.int 9), (.ref a1)]) s1 EF := fun t k => pre92 t (by
   refine XS.aloadN X88.here hx rfl (B d2_10) rfl rfl ?_
   exact XS.iloadN X88.here hx rfl (B d2_11) rfl k)
  obtain ⟨cl94, Ar94, q94, Sz94, M94, H94, G94⟩ := id (((((((((V1.other W8 ne12).other W18 ne12).other W28 ne12).other W38 ne12).other W48 ne12).other W58 ne12).other W68 ne12).other W78 ne12).other W88 ne12)
  have hin94 := inb_of (j := (9 : Int32)) Sz94 ⟨by decide, by decide⟩
  have hat94 := Has.at (v := (.int c9)) H94 hin94 rfl
  have pre95 : Go p e bl T88 (mkF m 20 #[rv a1, iv 9, rv a2, iv 9, iv 10, iv 9, iv c9] [(.int 255), (.int c9)]) s1 EF := fun t k => pre93 t (by
   refine X88.caload hx (j := 9) (v := (.int c9)) (hp e88 Ar94) (State.isArrayOf_alike hZ.alike Ar94.2.1) Ar94.2.2 hin94 hat94 (g := (mkF m 12 #[rv a1, iv 9, rv a2, iv 9, iv 10, iv 9, iv c8] [(.int 9), (.ref a1)])) rfl rfl (B d2_12) _ ?_
   refine XS.istore X88.here hx rfl (B d2_13) rfl (l' := #[rv a1, iv 9, rv a2, iv 9, iv 10, iv 9, iv c9]) rfl ?_
   refine XS.iload X88.here hx rfl (B d2_15) rfl ?_
   exact XS.sipush X88.here hx rfl (B d2_17) k)
  have pre96 : Go p e bl T88 (mkF m 26 #[rv a1, iv 9, rv a2, iv 9, iv 10, iv 9, iv c9] []) s1 EF := fun t k => pre95 t (XS.icmpYes X88.here hx rfl (pc0 := 20) (pc' := 26) rfl (B d2_20) rfl (flt (hle c9 (mg 9 rfl))).2.2.2 (by decide) (by decide) k)
  have pre97 : Go p e bl T88 (mkF m 31 #[rv a1, iv 9, rv a2, iv 9, iv 10, iv 9, iv c9] [(.int (c9.toInt8.toInt32)), (.int 9), (.ref a2)]) s1 EF := fun t k => pre96 t (by
   refine XS.aloadN X88.here hx rfl (B d2_26) rfl rfl ?_
   refine XS.iloadN X88.here hx rfl (B d2_27) rfl ?_
   refine XS.iload X88.here hx rfl (B d2_28) rfl ?_
   exact XS.i2b X88.here hx rfl (B d2_30) rfl k)
  obtain ⟨cl98, Ar98, q98, Sz98, M98, H98, G98⟩ := id V88
  have hin98 := inb_of (j := (9 : Int32)) Sz98 ⟨by decide, by decide⟩
  obtain ⟨T98, h98, X98, e98, W98, st98⟩ := stB X88 hx hZ e88 Ar98 (j := 9) hin98 (g := (mkF m 31 #[rv a1, iv 9, rv a2, iv 9, iv 10, iv 9, iv c9] [(.int (c9.toInt8.toInt32)), (.int 9), (.ref a2)])) rfl rfl (B d2_31)
  rw [own_i2b2] at W98
  have pre99 : Go p e bl T98 (mkF m 32 #[rv a1, iv 9, rv a2, iv 9, iv 10, iv 9, iv c9] []) s1 EF := fun t k => pre97 t (st98 t k)
  have O100 : Old Z n0 h98 := O90.wr W98 g_a2
  have Z100 : n0 ≤ h98.size := Nat.le_trans Z90 (Keep.of_wr W98).1
  have K100 : Keep h0 h98 [a2] := K90.wr W98 (Or.inl (mg 0 rfl))
  have V98 : Arv Z h98 a2 k2 .byte (10 : Int32) [(.int (c0.toInt8.toInt32)), (.int (c1.toInt8.toInt32)), (.int (c2.toInt8.toInt32)), (.int (c3.toInt8.toInt32)), (.int (c4.toInt8.toInt32)), (.int (c5.toInt8.toInt32)), (.int (c6.toInt8.toInt32)), (.int (c7.toInt8.toInt32)), (.int (c8.toInt8.toInt32)), (.int (c9.toInt8.toInt32))] (.int 0) := Arv.set Ar98 q98 Sz98 M98 H98 G98 (fits_nar_byte _) W98 9 rfl (wl rfl)
  have N98 := Fr.snoc X98 N88 g_a2
  have pre101 : Go p e bl T98 (mkF m 7 #[rv a1, iv 10, rv a2, iv 10, iv 10, iv 10, iv c9] [(.int 10), (.int 10)]) s1 EF := fun t k => pre99 t (by
   refine XS.iinc X98.here hx rfl (B d2_32) rfl (l' := #[rv a1, iv 10, rv a2, iv 9, iv 10, iv 9, iv c9]) rfl ?_
   refine XS.iinc X98.here hx rfl (B d2_35) rfl (l' := #[rv a1, iv 10, rv a2, iv 10, iv 10, iv 9, iv c9]) rfl ?_
   refine XS.iinc X98.here hx rfl (B d2_38) rfl (l' := #[rv a1, iv 10, rv a2, iv 10, iv 10, iv 10, iv c9]) rfl ?_
   refine XS.goto X98.here hx rfl (pc0 := 41) (pc' := 3) rfl (B d2_41) (by decide) (by decide) ?_
   refine XS.iload X98.here hx rfl (B d2_3) rfl ?_
   exact XS.iload X98.here hx rfl (B d2_5) rfl k)
  have pre102 : Go p e bl T98 (mkF m 44 #[rv a1, iv 10, rv a2, iv 10, iv 10, iv 10, iv c9] []) s1 EF := fun t k => pre101 t (XS.icmpYes X98.here hx rfl (pc0 := 7) (pc' := 44) rfl (B d2_7) rfl (flt (by decide : ¬ ((10 : Int32) < (10 : Int32)))).2.1 (by decide) (by decide) k)
  have pre103 : Go p e bl T98 (mkF m 46 #[rv a1, iv 10, rv a2, iv 10, iv 10, iv 10, iv c9] [(.int 10)]) s1 EF := fun t k => pre102 t (by
   exact XS.iload X98.here hx rfl (B d2_44) rfl k)
  exact fin1 X98 (v := some (.int 10)) hrt hlk (wl rfl) (wl rfl) (by rw [e98]; exact ⟨rfl, N98, K100, V98⟩) (fun fs hr => hEF ▸ pre103 _ (retOut X98 hx Bd.returns rfl (Or.inl ⟨rfl, Or.inl rfl, _, rfl⟩) (B d2_46) hr))
abbrev rKKb10 : Room := { frames := 1, cells := 1, slots := 10, locals := 18 }
theorem d3_0 : decode jdk_52_method_16_code 0 = .ok (.iload_n 2, 1) := by decide +kernel
theorem d3_1 : decode jdk_52_method_16_code 1 = .ok (.newarray .byte, 2) := by decide +kernel
theorem d3_3 : decode jdk_52_method_16_code 3 = .ok (.astore_n 3, 1) := by decide +kernel
theorem d3_4 : decode jdk_52_method_16_code 4 = .ok (.aload_n 0, 1) := by decide +kernel
theorem d3_5 : decode jdk_52_method_16_code 5 = .ok (.iload_n 1, 1) := by decide +kernel
theorem d3_6 : decode jdk_52_method_16_code 6 = .ok (.aload_n 3, 1) := by decide +kernel
theorem d3_7 : decode jdk_52_method_16_code 7 = .ok (.iconst 0, 1) := by decide +kernel
theorem d3_8 : decode jdk_52_method_16_code 8 = .ok (.iload_n 2, 1) := by decide +kernel
theorem d3_9 : decode jdk_52_method_16_code 9 = .ok (.invokestatic 115, 3) := by decide +kernel
theorem d3_12 : decode jdk_52_method_16_code 12 = .ok (.istore 4, 2) := by decide +kernel
theorem d3_14 : decode jdk_52_method_16_code 14 = .ok (.iload 4, 2) := by decide +kernel
theorem d3_16 : decode jdk_52_method_16_code 16 = .ok (.iload_n 2, 1) := by decide +kernel
theorem d3_17 : decode jdk_52_method_16_code 17 = .ok (.if_icmp .eq 40, 3) := by decide +kernel
theorem d3_57 : decode jdk_52_method_16_code 57 = .ok (.aload_n 3, 1) := by decide +kernel
theorem d3_58 : decode jdk_52_method_16_code 58 = .ok (.areturn, 1) := by decide +kernel
theorem pd1 : parseMethodDescriptor "([CI[BII)I" = some ⟨[(.array .char), .int, (.array .byte), .int, .int], some .int⟩ := by decide +kernel
theorem efKb10 (m : MethodId) (a1 : Addr) : entryFrame m #[(.ref a1), (.int 0), (.int 10)] 6 = mkF m 0 #[rv a1, iv 0, iv 10, .unset, .unset, .unset] [] := by first | (simp [entryFrame, mkF, argsToLocals, Value.category]; done) | rfl
def QKb10 (Z : State) (a1 : Addr) (cz : Int32) (fv : Value) (k1 : ClassId) (c0 : Int32) (c1 : Int32) (c2 : Int32) (c3 : Int32) (c4 : Int32) (c5 : Int32) (c6 : Int32) (c7 : Int32) (c8 : Int32) (c9 : Int32) (h0 : Heap) (n0 : Nat) (v : Option Value) (h : Heap) (L : List Loc) : Prop := ∃ b k, v = some (.ref b) ∧ Fr n0 L ∧ Keep h0 h [] ∧ h0.size ≤ b ∧ Arv Z h b k .byte (10 : Int32) [(.int (c0.toInt8.toInt32)), (.int (c1.toInt8.toInt32)), (.int (c2.toInt8.toInt32)), (.int (c3.toInt8.toInt32)), (.int (c4.toInt8.toInt32)), (.int (c5.toInt8.toInt32)), (.int (c6.toInt8.toInt32)), (.int (c7.toInt8.toInt32)), (.int (c8.toInt8.toInt32)), (.int (c9.toInt8.toInt32))] (.int 0)
set_option maxRecDepth 65536 in
set_option maxHeartbeats 40000000 in
theorem rmKb10 (l : Launch) (Z : State) (a0 : Array Value) (hw : HW a0 Z) (ws : List Jvm.Cond) (a1 : Addr) (cz : Int32) (fv : Value) (k1 : ClassId) (c0 : Int32) (c1 : Int32) (c2 : Int32) (c3 : Int32) (c4 : Int32) (c5 : Int32) (c6 : Int32) (c7 : Int32) (c8 : Int32) (c9 : Int32) (h0 : Heap) (n0 : Nat) (Z0 : n0 ≤ h0.size) (O0 : Old Z n0 h0) (J0 : Jd Z cz fv) (V1 : Arv Z h0 a1 k1 .char (10 : Int32) [(.int c0), (.int c1), (.int c2), (.int c3), (.int c4), (.int c5), (.int c6), (.int c7), (.int c8), (.int c9)] (.int 0)) (hle : (∀ c ∈ [c0, c1, c2, c3, c4, c5, c6, c7, c8, c9], ¬ (255 : Int32) < c)) :
    MF l Z mN3 jdk_52_method_16_code 6 (some (.array .byte)) ws rKKb10 #[(.ref a1), (.int 0), (.int 10)] h0 (QKb10 Z a1 cz fv k1 c0 c1 c2 c3 c4 c5 c6 c7 c8 c9 h0 n0) := by
  refine MetFree.of_bodySF (plainFor_of_name pn2) hisR ?_
  intro p e s m args bl meth c s1 Bd hml0 hP hK
  obtain ⟨rfl, hZ, hh⟩ := hP
  have hx := Bd.exec
  have hby := Bd.bytes
  have B := @hb c _ hby
  have hM := fun {n : Nat} (h : n = 6) => h.trans hml0.symm
  have hown : s.vm.findClass "java/lang/StringUTF16" = some m.cls := findClass_of_methodNamed Bd.named
  have hlk : meth.locks = false := BodyLoose.notSynchronized Bd
  have hrt : ∀ {v : Option Value}, meth.sig.returnType = none → v = none := fun h => by rw [Bd.returns] at h; cases h
  have X0 : Stand p l e rKKb10 s m #[(.ref a1), (.int 0), (.int 10)] bl meth c s1 [] 0 0 := Stand.of_body Bd
  have e0 : s1.heap = h0 := by rw [← hh, Bd.state]; rfl
  have N0 := Fr.nil n0
  obtain ⟨EF, hEF⟩ : ∃ f, f = entryFrame m #[(.ref a1), (.int 0), (.int 10)] 6 := ⟨_, rfl⟩
  have pre0 : Go p e bl s1 (mkF m 0 #[rv a1, iv 0, iv 10, .unset, .unset, .unset] []) s1 EF := fun t k => by rw [hEF]; exact castTop (efKb10 m a1) k
  have pre1 : Go p e bl s1 (mkF m 1 #[rv a1, iv 0, iv 10, .unset, .unset, .unset] [(.int 10)]) s1 EF := fun t k => pre0 t (by
   exact XS.iloadN X0.here hx rfl (B d3_0) rfl k)
  obtain ⟨T2, h2, k2, X2, e2, Et2, A2, st2⟩ := newP X0 hx hZ (hw _ (mW 23 rfl)) e0 (g := (mkF m 1 #[rv a1, iv 0, iv 10, .unset, .unset, .unset] [(.int 10)])) rfl (B d3_1) rfl (by decide) (cap := 10) (by decide) (by decide) (by decide) (by decide)
  obtain ⟨b2, g2⟩ : ∃ z, z = h0.size := ⟨_, rfl⟩
  rw [← g2] at A2 st2
  have g_b2 : n0 ≤ b2 := Nat.le_trans Z0 (Nat.le_of_eq g2.symm)
  have sz_b2 : h0.size ≤ b2 := Nat.le_trans (Keep.refl h0 []).1 (Nat.le_of_eq g2.symm)
  have ne_a1_b2 : a1 ≠ b2 := Nat.ne_of_lt (Nat.lt_of_lt_of_le V1.lt (Nat.le_of_eq g2.symm))
  have pre3 : Go p e bl T2 (mkF m 3 #[rv a1, iv 0, iv 10, .unset, .unset, .unset] [(.ref b2)]) s1 EF := fun t k => pre1 t (st2 t k)
  have O4 : Old Z n0 h2 := O0.ext Et2
  have Z4 : n0 ≤ h2.size := Nat.le_trans Z0 Et2.1
  have K4 : Keep h0 h2 [] := (Keep.refl h0 []).ext Et2
  have V2 : Arv Z h2 b2 k2 .byte (10 : Int32) [(.int 0), (.int 0), (.int 0), (.int 0), (.int 0), (.int 0), (.int 0), (.int 0), (.int 0), (.int 0)] (.int 0) := (Arv.new A2 (by decide)).pad (pad_rep [] (.int 0) 10)
  have pre5 : Go p e bl T2 (mkF m 9 #[rv a1, iv 0, iv 10, rv b2, .unset, .unset] [(.int 10), (.int 0), (.ref b2), (.int 0), (.ref a1)]) s1 EF := fun t k => pre3 t (by
   refine XS.astoreN X2.here hx rfl (B d3_3) rfl rfl (l' := #[rv a1, iv 0, iv 10, rv b2, .unset, .unset]) rfl ?_
   refine XS.aloadN X2.here hx rfl (B d3_4) rfl rfl ?_
   refine XS.iloadN X2.here hx rfl (B d3_5) rfl ?_
   refine XS.aloadN X2.here hx rfl (B d3_6) rfl rfl ?_
   refine XS.iconst X2.here hx rfl (B d3_7) ?_
   exact XS.iloadN X2.here hx rfl (B d3_8) rfl k)
  obtain ⟨_, _, ⟨T6, L6, k6, n6⟩, -, X6, ⟨Lc6, hQ6, l6, y6, z6⟩, st6⟩ := Jvm.LawKit.callS X2 hx (y := mN2) hown (mvT hZ (hw _ (mW 24 rfl))) (mvT hZ (hw _ (mW 25 rfl))) (mvT hZ (hw _ (mW 21 rfl))) (mvT hZ (hw _ (mW 26 rfl))) (by decide) (backOf (W := 0) (rmKa10 l Z a0 hw [] a1 b2 cz fv k1 k2 c0 c1 c2 c3 c4 c5 c6 c7 c8 c9 h2 n0 Z4 O4 J0 (V1.ext Et2) V2 ne_a1_b2 g_b2 hle) hZ (hw _ (mW 26 rfl)) (hw _ (mW 21 rfl)) (by decide) (by decide)) (g := (mkF m 9 #[rv a1, iv 0, iv 10, rv b2, .unset, .unset] [(.int 10), (.int 0), (.ref b2), (.int 0), (.ref a1)])) rfl (hM rfl) (argsL := [(.ref a1), (.int 0), (.ref b2), (.int 0), (.int 10)]) (rest := []) (lenOf pd1 rfl) rfl (Nat.le_of_eq rfl) (B d3_9) (fun _ _ => ⟨rfl, e2, wl rfl, wl rfl⟩)
  dsimp only [Pt.U, Pt.locs, Pt.cells, Pt.slots] at X6 l6 y6 z6 st6 hQ6
  subst l6 y6 z6
  obtain ⟨rfl, N6q, K6, VL6⟩ := hQ6
  have N6 := Fr.app N0 N6q
  have pre7 : Go p e bl T6 (mkF m 12 #[rv a1, iv 0, iv 10, rv b2, .unset, .unset] [(.int 10)]) s1 EF := fun t k => pre5 t (st6 t k)
  have O8 : Old Z n0 T6.heap := O4.keep K6 (allS g_b2 all0)
  have Z8 : n0 ≤ T6.heap.size := Nat.le_trans Z4 K6.1
  have K8 : Keep h0 T6.heap [] := K4.trans K6 (allS (Or.inr sz_b2) all0)
  have pre9 : Go p e bl T6 (mkF m 17 #[rv a1, iv 0, iv 10, rv b2, iv 10, .unset] [(.int 10), (.int 10)]) s1 EF := fun t k => pre7 t (by
   refine XS.istore X6.here hx rfl (B d3_12) rfl (l' := #[rv a1, iv 0, iv 10, rv b2, iv 10, .unset]) rfl ?_
   refine XS.iload X6.here hx rfl (B d3_14) rfl ?_
   exact XS.iloadN X6.here hx rfl (B d3_16) rfl k)
  have pre10 : Go p e bl T6 (mkF m 57 #[rv a1, iv 0, iv 10, rv b2, iv 10, .unset] []) s1 EF := fun t k => pre9 t (XS.icmpYes X6.here hx rfl (pc0 := 17) (pc' := 57) rfl (B d3_17) rfl (teq (by decide : (10 : Int32) = (10 : Int32))).1 (by decide) (by decide) k)
  have pre11 : Go p e bl T6 (mkF m 58 #[rv a1, iv 0, iv 10, rv b2, iv 10, .unset] [(.ref b2)]) s1 EF := fun t k => pre10 t (by
   exact XS.aloadN X6.here hx rfl (B d3_57) rfl rfl k)
  exact fin1 X6 (v := some (.ref b2)) hrt hlk (wl rfl) (wl rfl) (by exact ⟨_, _, rfl, N6, K8, sz_b2, VL6⟩) (fun fs hr => hEF ▸ pre11 _ (retOut X6 hx Bd.returns rfl (Or.inr (Or.inr (Or.inr (Or.inr ⟨rfl, rfl, rfl⟩)))) (B d3_58) hr))
abbrev rKKa9 : Room := { frames := 0, cells := 0, slots := 0, locals := 0 }
theorem efKa9 (m : MethodId) (a1 : Addr) (a2 : Addr) : entryFrame m #[(.ref a1), (.int 0), (.ref a2), (.int 0), (.int 9)] 7 = mkF m 0 #[rv a1, iv 0, rv a2, iv 0, iv 9, .unset, .unset] [] := by first | (simp [entryFrame, mkF, argsToLocals, Value.category]; done) | rfl
def QKa9 (Z : State) (a1 : Addr) (a2 : Addr) (cz : Int32) (fv : Value) (k1 : ClassId) (k2 : ClassId) (c0 : Int32) (c1 : Int32) (c2 : Int32) (c3 : Int32) (c4 : Int32) (c5 : Int32) (c6 : Int32) (c7 : Int32) (c8 : Int32) (h0 : Heap) (n0 : Nat) (v : Option Value) (h : Heap) (L : List Loc) : Prop := v = some (.int 9) ∧ Fr n0 L ∧ Keep h0 h [a2] ∧ Arv Z h a2 k2 .byte (9 : Int32) [(.int (c0.toInt8.toInt32)), (.int (c1.toInt8.toInt32)), (.int (c2.toInt8.toInt32)), (.int (c3.toInt8.toInt32)), (.int (c4.toInt8.toInt32)), (.int (c5.toInt8.toInt32)), (.int (c6.toInt8.toInt32)), (.int (c7.toInt8.toInt32)), (.int (c8.toInt8.toInt32))] (.int 0)
set_option maxRecDepth 65536 in
set_option maxHeartbeats 40000000 in
theorem rmKa9 (l : Launch) (Z : State) (a0 : Array Value) (hw : HW a0 Z) (ws : List Jvm.Cond) (a1 : Addr) (a2 : Addr) (cz : Int32) (fv : Value) (k1 : ClassId) (k2 : ClassId) (c0 : Int32) (c1 : Int32) (c2 : Int32) (c3 : Int32) (c4 : Int32) (c5 : Int32) (c6 : Int32) (c7 : Int32) (c8 : Int32) (h0 : Heap) (n0 : Nat) (Z0 : n0 ≤ h0.size) (O0 : Old Z n0 h0) (J0 : Jd Z cz fv) (V1 : Arv Z h0 a1 k1 .char (9 : Int32) [(.int c0), (.int c1), (.int c2), (.int c3), (.int c4), (.int c5), (.int c6), (.int c7), (.int c8)] (.int 0)) (V2 : Arv Z h0 a2 k2 .byte (9 : Int32) [(.int 0), (.int 0), (.int 0), (.int 0), (.int 0), (.int 0), (.int 0), (.int 0), (.int 0)] (.int 0)) (ne12 : a1 ≠ a2) (g_a2 : n0 ≤ a2) (hle : (∀ c ∈ [c0, c1, c2, c3, c4, c5, c6, c7, c8], ¬ (255 : Int32) < c)) :
    MF l Z mN2 jdk_52_method_21_code 7 (some .int) ws rKKa9 #[(.ref a1), (.int 0), (.ref a2), (.int 0), (.int 9)] h0 (QKa9 Z a1 a2 cz fv k1 k2 c0 c1 c2 c3 c4 c5 c6 c7 c8 h0 n0) := by
  refine MetFree.of_bodySF (plainFor_of_name pn2) hisR ?_
  intro p e s m args bl meth c s1 Bd hml0 hP hK
  obtain ⟨rfl, hZ, hh⟩ := hP
  have hx := Bd.exec
  have hby := Bd.bytes
  have B := @hb c _ hby
  have hown : s.vm.findClass "java/lang/StringUTF16" = some m.cls := findClass_of_methodNamed Bd.named
  have hlk : meth.locks = false := BodyLoose.notSynchronized Bd
  have hrt : ∀ {v : Option Value}, meth.sig.returnType = none → v = none := fun h => by rw [Bd.returns] at h; cases h
  have X0 : Stand p l e rKKa9 s m #[(.ref a1), (.int 0), (.ref a2), (.int 0), (.int 9)] bl meth c s1 [] 0 0 := Stand.of_body Bd
  have e0 : s1.heap = h0 := by rw [← hh, Bd.state]; rfl
  have N0 := Fr.nil n0
  obtain ⟨EF, hEF⟩ : ∃ f, f = entryFrame m #[(.ref a1), (.int 0), (.ref a2), (.int 0), (.int 9)] 7 := ⟨_, rfl⟩
  have pre0 : Go p e bl s1 (mkF m 0 #[rv a1, iv 0, rv a2, iv 0, iv 9, .unset, .unset] []) s1 EF := fun t k => by rw [hEF]; exact castTop (efKa9 m a1 a2) k
  have pre1 : Go p e bl s1 (mkF m 7 #[rv a1, iv 0, rv a2, iv 0, iv 9, iv 0, .unset] [(.int 9), (.int 0)]) s1 EF := fun t k => pre0 t (by
   refine XS.iconst X0.here hx rfl (B d2_0) ?_
   refine XS.istore X0.here hx rfl (B d2_1) rfl (l' := #[rv a1, iv 0, rv a2, iv 0, iv 9, iv 0, .unset]) rfl ?_
   refine XS.iload X0.here hx rfl (B d2_3) rfl ?_
   exact XS.iload X0.here hx rfl (B d2_5) rfl k)
  have pre2 : Go p e bl s1 (mkF m 10 #[rv a1, iv 0, rv a2, iv 0, iv 9, iv 0, .unset] []) s1 EF := fun t k => pre1 t (XS.icmpNo X0.here hx rfl (B d2_7) rfl (tlt (by decide : (0 : Int32) < (9 : Int32))).2.1 k)
  have pre3 : Go p e bl s1 (mkF m 12 #[rv a1, iv 0, rv a2, iv 0, iv 9, iv 0, .unset] [(.int 0), (.ref a1)]) s1 EF := fun t k => pre2 t (by
   refine XS.aloadN X0.here hx rfl (B d2_10) rfl rfl ?_
   exact XS.iloadN X0.here hx rfl (B d2_11) rfl k)
  obtain ⟨cl4, Ar4, q4, Sz4, M4, H4, G4⟩ := id V1
  have hin4 := inb_of (j := (0 : Int32)) Sz4 ⟨by decide, by decide⟩
  have hat4 := Has.at (v := (.int c0)) H4 hin4 rfl
  have pre5 : Go p e bl s1 (mkF m 20 #[rv a1, iv 0, rv a2, iv 0, iv 9, iv 0, iv c0] [(.int 255), (.int c0)]) s1 EF := fun t k => pre3 t (by
   refine X0.caload hx (j := 0) (v := (.int c0)) (hp e0 Ar4) (State.isArrayOf_alike hZ.alike Ar4.2.1) Ar4.2.2 hin4 hat4 (g := (mkF m 12 #[rv a1, iv 0, rv a2, iv 0, iv 9, iv 0, .unset] [(.int 0), (.ref a1)])) rfl rfl (B d2_12) _ ?_
   refine XS.istore X0.here hx rfl (B d2_13) rfl (l' := #[rv a1, iv 0, rv a2, iv 0, iv 9, iv 0, iv c0]) rfl ?_
   refine XS.iload X0.here hx rfl (B d2_15) rfl ?_
   exact XS.sipush X0.here hx rfl (B d2_17) k)
  have pre6 : Go p e bl s1 (mkF m 26 #[rv a1, iv 0, rv a2, iv 0, iv 9, iv 0, iv c0] []) s1 EF := fun t k => pre5 t (XS.icmpYes X0.here hx rfl (pc0 := 20) (pc' := 26) rfl (B d2_20) rfl (flt (hle c0 (mg 0 rfl))).2.2.2 (by decide) (by decide) k)
  have pre7 : Go p e bl s1 (mkF m 31 #[rv a1, iv 0, rv a2, iv 0, iv 9, iv 0, iv c0] [(.int (c0.toInt8.toInt32)), (.int 0), (.ref a2)]) s1 EF := fun t k => pre6 t (by
   refine XS.aloadN X0.here hx rfl (B d2_26) rfl rfl ?_
   refine XS.iloadN X0.here hx rfl (B d2_27) rfl ?_
   refine XS.iload X0.here hx rfl (B d2_28) rfl ?_
   exact XS.i2b X0.here hx rfl (B d2_30) rfl k)
  obtain ⟨cl8, Ar8, q8, Sz8, M8, H8, G8⟩ := id V2
  have hin8 := inb_of (j := (0 : Int32)) Sz8 ⟨by decide, by decide⟩
  obtain ⟨T8, h8, X8, e8, W8, st8⟩ := stB X0 hx hZ e0 Ar8 (j := 0) hin8 (g := (mkF m 31 #[rv a1, iv 0, rv a2, iv 0, iv 9, iv 0, iv c0] [(.int (c0.toInt8.toInt32)), (.int 0), (.ref a2)])) rfl rfl (B d2_31)
  rw [own_i2b2] at W8
  have pre9 : Go p e bl T8 (mkF m 32 #[rv a1, iv 0, rv a2, iv 0, iv 9, iv 0, iv c0] []) s1 EF := fun t k => pre7 t (st8 t k)
  have O10 : Old Z n0 h8 := O0.wr W8 g_a2
  have Z10 : n0 ≤ h8.size := Nat.le_trans Z0 (Keep.of_wr W8).1
  have K10 : Keep h0 h8 [a2] := (Keep.refl h0 [a2]).wr W8 (Or.inl (mg 0 rfl))
  have V8 : Arv Z h8 a2 k2 .byte (9 : Int32) [(.int (c0.toInt8.toInt32)), (.int 0), (.int 0), (.int 0), (.int 0), (.int 0), (.int 0), (.int 0), (.int 0)] (.int 0) := Arv.set Ar8 q8 Sz8 M8 H8 G8 (fits_nar_byte _) W8 0 rfl (wl rfl)
  have N8 := Fr.snoc X8 N0 g_a2
  have pre11 : Go p e bl T8 (mkF m 7 #[rv a1, iv 1, rv a2, iv 1, iv 9, iv 1, iv c0] [(.int 9), (.int 1)]) s1 EF := fun t k => pre9 t (by
   refine XS.iinc X8.here hx rfl (B d2_32) rfl (l' := #[rv a1, iv 1, rv a2, iv 0, iv 9, iv 0, iv c0]) rfl ?_
   refine XS.iinc X8.here hx rfl (B d2_35) rfl (l' := #[rv a1, iv 1, rv a2, iv 1, iv 9, iv 0, iv c0]) rfl ?_
   refine XS.iinc X8.here hx rfl (B d2_38) rfl (l' := #[rv a1, iv 1, rv a2, iv 1, iv 9, iv 1, iv c0]) rfl ?_
   refine XS.goto X8.here hx rfl (pc0 := 41) (pc' := 3) rfl (B d2_41) (by decide) (by decide) ?_
   refine XS.iload X8.here hx rfl (B d2_3) rfl ?_
   exact XS.iload X8.here hx rfl (B d2_5) rfl k)
  have pre12 : Go p e bl T8 (mkF m 10 #[rv a1, iv 1, rv a2, iv 1, iv 9, iv 1, iv c0] []) s1 EF := fun t k => pre11 t (XS.icmpNo X8.here hx rfl (B d2_7) rfl (tlt (by decide : (1 : Int32) < (9 : Int32))).2.1 k)
  have pre13 : Go p e bl T8 (mkF m 12 #[rv a1, iv 1, rv a2, iv 1, iv 9, iv 1, iv c0] [(.int 1), (.ref a1)]) s1 EF := fun t k => pre12 t (by
   refine XS.aloadN X8.here hx rfl (B d2_10) rfl rfl ?_
   exact XS.iloadN X8.here hx rfl (B d2_11) rfl k)
  obtain ⟨cl14, Ar14, q14, Sz14, M14, H14, G14⟩ := id (V1.other W8 ne12)
  have hin14 := inb_of (j := (1 : Int32)) Sz14 ⟨by decide, by decide⟩
  have hat14 := Has.at (v := (.int c1)) H14 hin14 rfl
  have pre15 : Go p e bl T8 (mkF m 20 #[rv a1, iv 1, rv a2, iv 1, iv 9, iv 1, iv c1] [(.int 255), (.int c1)]) s1 EF := fun t k => pre13 t (by
   refine X8.caload hx (j := 1) (v := (.int c1)) (hp e8 Ar14) (State.isArrayOf_alike hZ.alike Ar14.2.1) Ar14.2.2 hin14 hat14 (g := (mkF m 12 #[rv a1, iv 1, rv a2, iv 1, iv 9, iv 1, iv c0] [(.int 1), (.ref a1)])) rfl rfl (B d2_12) _ ?_
   refine XS.istore X8.here hx rfl (B d2_13) rfl (l' := #[rv a1, iv 1, rv a2, iv 1, iv 9, iv 1, iv c1]) rfl ?_
   refine XS.iload X8.here hx rfl (B d2_15) rfl ?_
   exact XS.sipush X8.here hx rfl (B d2_17) k)
  have pre16 : Go p e bl T8 (mkF m 26 #[rv a1, iv 1, rv a2, iv 1, iv 9, iv 1, iv c1] []) s1 EF := fun t k => pre15 t (XS.icmpYes X8.here hx rfl (pc0 := 20) (pc' := 26) rfl (B d2_20) rfl (flt (hle c1 (mg 1 rfl))).2.2.2 (by decide) (by decide) k)
  have pre17 : Go p e bl T8 (mkF m 31 #[rv a1, iv 1, rv a2, iv 1, iv 9, iv 1, iv c1] [(.int (c1.toInt8.toInt32)), (.int 1), (.ref a2)]) s1 EF := fun t k => pre16 t (by
   refine XS.aloadN X8.here hx rfl (B d2_26) rfl rfl ?_
   refine XS.iloadN X8.here hx rfl (B d2_27) rfl ?_
   refine XS.iload X8.here hx rfl (B d2_28) rfl ?_
   exact XS.i2b X8.here hx rfl (B d2_30) rfl k)
  obtain ⟨cl18, Ar18, q18, Sz18, M18, H18, G18⟩ := id V8
  have hin18 := inb_of (j := (1 : Int32)) Sz18 ⟨by decide, by decide⟩
  obtain ⟨T18, h18, X18, e18, W18, st18⟩ := stB X8 hx hZ e8 Ar18 (j := 1) hin18 (g := (mkF m 31 #[rv a1, iv 1, rv a2, iv 1, iv 9, iv 1, iv c1] [(.int (c1.toInt8.toInt32)), (.int 1), (.ref a2)])) rfl rfl (B d2_31)
  rw [own_i2b2] at W18
  have pre19 : Go p e bl T18 (mkF m 32 #[rv a1, iv 1, rv a2, iv 1, iv 9, iv 1, iv c1] []) s1 EF := fun t k => pre17 t (st18 t k)
  have O20 : Old Z n0 h18 := O10.wr W18 g_a2
  have Z20 : n0 ≤ h18.size := Nat.le_trans Z10 (Keep.of_wr W18).1
  have K20 : Keep h0 h18 [a2] := K10.wr W18 (Or.inl (mg 0 rfl))
  have V18 : Arv Z h18 a2 k2 .byte (9 : Int32) [(.int (c0.toInt8.toInt32)), (.int (c1.toInt8.toInt32)), (.int 0), (.int 0), (.int 0), (.int 0), (.int 0), (.int 0), (.int 0)] (.int 0) := Arv.set Ar18 q18 Sz18 M18 H18 G18 (fits_nar_byte _) W18 1 rfl (wl rfl)
  have N18 := Fr.snoc X18 N8 g_a2
  have pre21 : Go p e bl T18 (mkF m 7 #[rv a1, iv 2, rv a2, iv 2, iv 9, iv 2, iv c1] [(.int 9), (.int 2)]) s1 EF := fun t k => pre19 t (by
   refine XS.iinc X18.here hx rfl (B d2_32) rfl (l' := #[rv a1, iv 2, rv a2, iv 1, iv 9, iv 1, iv c1]) rfl ?_
   refine XS.iinc X18.here hx rfl (B d2_35) rfl (l' := #[rv a1, iv 2, rv a2, iv 2, iv 9, iv 1, iv c1]) rfl ?_
   refine XS.iinc X18.here hx rfl (B d2_38) rfl (l' := #[rv a1, iv 2, rv a2, iv 2, iv 9, iv 2, iv c1]) rfl ?_
   refine XS.goto X18.here hx rfl (pc0 := 41) (pc' := 3) rfl (B d2_41) (by decide) (by decide) ?_
   refine XS.iload X18.here hx rfl (B d2_3) rfl ?_
   exact XS.iload X18.here hx rfl (B d2_5) rfl k)
  have pre22 : Go p e bl T18 (mkF m 10 #[rv a1, iv 2, rv a2, iv 2, iv 9, iv 2, iv c1] []) s1 EF := fun t k => pre21 t (XS.icmpNo X18.here hx rfl (B d2_7) rfl (tlt (by decide : (2 : Int32) < (9 : Int32))).2.1 k)
  have pre23 : Go p e bl T18 (mkF m 12 #[rv a1, iv 2, rv a2, iv 2, iv 9, iv 2, iv c1] [(.int 2), (.ref a1)]) s1 EF := fun t k => pre22 t (by
   refine XS.aloadN X18.here hx rfl (B d2_10) rfl rfl ?_
   exact XS.iloadN X18.here hx rfl (B d2_11) rfl k)
  obtain ⟨cl24, Ar24, q24, Sz24, M24, H24, G24⟩ := id ((V1.other W8 ne12).other W18 ne12)
  have hin24 := inb_of (j := (2 : Int32)) Sz24 ⟨by decide, by decide⟩
  have hat24 := Has.at (v := (.int c2)) H24 hin24 rfl
  have pre25 : Go p e bl T18 (mkF m 20 #[rv a1, iv 2, rv a2, iv 2, iv 9, iv 2, iv c2] [(.int 255), (.int c2)]) s1 EF := fun t k => pre23 t (by
   refine X18.caload hx (j := 2) (v := (.int c2)) (hp e18 Ar24) (State.isArrayOf_alike hZ.alike Ar24.2.1) Ar24.2.2 hin24 hat24 (g := (mkF m 12 #[rv a1, iv 2, rv a2, iv 2, iv 9, iv 2, iv c1] [(.int 2), (.ref a1)])) rfl rfl (B d2_12) _ ?_
   refine XS.istore X18.here hx rfl (B d2_13) rfl (l' := #[rv a1, iv 2, rv a2, iv 2, iv 9, iv 2, iv c2]) rfl ?_
   refine XS.iload X18.here hx rfl (B d2_15) rfl ?_
   exact XS.sipush X18.here hx rfl (B d2_17) k)
  have pre26 : Go p e bl T18 (mkF m 26 #[rv a1, iv 2, rv a2, iv 2, iv 9, iv 2, iv c2] []) s1 EF := fun t k => pre25 t (XS.icmpYes X18.here hx rfl (pc0 := 20) (pc' := 26) rfl (B d2_20) rfl (flt (hle c2 (mg 2 rfl))).2.2.2 (by decide) (by decide) k)
  have pre27 : Go p e bl T18 (mkF m 31 #[rv a1, iv 2, rv a2, iv 2, iv 9, iv 2, iv c2] [(.int (c2.toInt8.toInt32)), (.int 2), (.ref a2)]) s1 EF := fun t k => pre26 t (by
   refine XS.aloadN X18.here hx rfl (B d2_26) rfl rfl ?_
   refine XS.iloadN X18.here hx rfl (B d2_27) rfl ?_
   refine XS.iload X18.here hx rfl (B d2_28) rfl ?_
   exact XS.i2b X18.here hx rfl (B d2_30) rfl k)
  obtain ⟨cl28, Ar28, q28, Sz28, M28, H28, G28⟩ := id V18
  have hin28 := inb_of (j := (2 : Int32)) Sz28 ⟨by decide, by decide⟩
  obtain ⟨T28, h28, X28, e28, W28, st28⟩ := stB X18 hx hZ e18 Ar28 (j := 2) hin28 (g := (mkF m 31 #[rv a1, iv 2, rv a2, iv 2, iv 9, iv 2, iv c2] [(.int (c2.toInt8.toInt32)), (.int 2), (.ref a2)])) rfl rfl (B d2_31)
  rw [own_i2b2] at W28
  have pre29 : Go p e bl T28 (mkF m 32 #[rv a1, iv 2, rv a2, iv 2, iv 9, iv 2, iv c2] []) s1 EF := fun t k => pre27 t (st28 t k)
  have O30 : Old Z n0 h28 := O20.wr W28 g_a2
  have Z30 : n0 ≤ h28.size := Nat.le_trans Z20 (Keep.of_wr W28).1
  have K30 : Keep h0 h28 [a2] := K20.wr W28 (Or.inl (mg 0 rfl))
  have V28 : Arv Z h28 a2 k2 .byte (9 : Int32) [(.int (c0.toInt8.toInt32)), (.int (c1.toInt8.toInt32)), (.int (c2.toInt8.toInt32)), (.int 0), (.int 0), (.int 0), (.int 0), (.int 0), (.int 0)] (.int 0) := Arv.set Ar28 q28 Sz28 M28 H28 G28 (fits_nar_byte _) W28 2 rfl (wl rfl)
  have N28 := Fr.snoc X28 N18 g_a2
  have pre31 : Go p e bl T28 (mkF m 7 #[rv a1, iv 3, rv a2, iv 3, iv 9, iv 3, iv c2] [(.int 9), (.int 3)]) s1 EF := fun t k => pre29 t (by
   refine XS.iinc X28.here hx rfl (B d2_32) rfl (l' := #[rv a1, iv 3, rv a2, iv 2, iv 9, iv 2, iv c2]) rfl ?_
   refine XS.iinc X28.here hx rfl (B d2_35) rfl (l' := #[rv a1, iv 3, rv a2, iv 3, iv 9, iv 2, iv c2]) rfl ?_
   refine XS.iinc X28.here hx rfl (B d2_38) rfl (l' := #[rv a1, iv 3, rv a2, iv 3, iv 9, iv 3, iv c2]) rfl ?_
   refine XS.goto X28.here hx rfl (pc0 := 41) (pc' := 3) rfl (B d2_41) (by decide) (by decide) ?_
   refine XS.iload X28.here hx rfl (B d2_3) rfl ?_
   exact XS.iload X28.here hx rfl (B d2_5) rfl k)
  have pre32 : Go p e bl T28 (mkF m 10 #[rv a1, iv 3, rv a2, iv 3, iv 9, iv 3, iv c2] []) s1 EF := fun t k => pre31 t (XS.icmpNo X28.here hx rfl (B d2_7) rfl (tlt (by decide : (3 : Int32) < (9 : Int32))).2.1 k)
  have pre33 : Go p e bl T28 (mkF m 12 #[rv a1, iv 3, rv a2, iv 3, iv 9, iv 3, iv c2] [(.int 3), (.ref a1)]) s1 EF := fun t k => pre32 t (by
   refine XS.aloadN X28.here hx rfl (B d2_10) rfl rfl ?_
   exact XS.iloadN X28.here hx rfl (B d2_11) rfl k)
  obtain ⟨cl34, Ar34, q34, Sz34, M34, H34, G34⟩ := id (((V1.other W8 ne12).other W18 ne12).other W28 ne12)
  have hin34 := inb_of (j := (3 : Int32)) Sz34 ⟨by decide, by decide⟩
  have hat34 := Has.at (v := (.int c3)) H34 hin34 rfl
  have pre35 : Go p e bl T28 (mkF m 20 #[rv a1, iv 3, rv a2, iv 3, iv 9, iv 3, iv c3] [(.int 255), (.int c3)]) s1 EF := fun t k => pre33 t (by
   refine X28.caload hx (j := 3) (v := (.int c3)) (hp e28 Ar34) (State.isArrayOf_alike hZ.alike Ar34.2.1) Ar34.2.2 hin34 hat34 (g := (mkF m 12 #[rv a1, iv 3, rv a2, iv 3, iv 9, iv 3, iv c2] [(.int 3), (.ref a1)])) rfl rfl (B d2_12) _ ?_
   refine XS.istore X28.here hx rfl (B d2_13) rfl (l' := #[rv a1, iv 3, rv a2, iv 3, iv 9, iv 3, iv c3]) rfl ?_
   refine XS.iload X28.here hx rfl (B d2_15) rfl ?_
   exact XS.sipush X28.here hx rfl (B d2_17) k)
  have pre36 : Go p e bl T28 (mkF m 26 #[rv a1, iv 3, rv a2, iv 3, iv 9, iv 3, iv c3] []) s1 EF := fun t k => pre35 t (XS.icmpYes X28.here hx rfl (pc0 := 20) (pc' := 26) rfl (B d2_20) rfl (flt (hle c3 (mg 3 rfl))).2.2.2 (by decide) (by decide) k)
  have pre37 : Go p e bl T28 (mkF m 31 #[rv a1, iv 3, rv a2, iv 3, iv 9, iv 3, iv c3] [(.int (c3.toInt8.toInt32)), (.int 3), (.ref a2)]) s1 EF := fun t k => pre36 t (by
   refine XS.aloadN X28.here hx rfl (B d2_26) rfl rfl ?_
   refine XS.iloadN X28.here hx rfl (B d2_27) rfl ?_
   refine XS.iload X28.here hx rfl (B d2_28) rfl ?_
   exact XS.i2b X28.here hx rfl (B d2_30) rfl k)
  obtain ⟨cl38, Ar38, q38, Sz38, M38, H38, G38⟩ := id V28
  have hin38 := inb_of (j := (3 : Int32)) Sz38 ⟨by decide, by decide⟩
  obtain ⟨T38, h38, X38, e38, W38, st38⟩ := stB X28 hx hZ e28 Ar38 (j := 3) hin38 (g := (mkF m 31 #[rv a1, iv 3, rv a2, iv 3, iv 9, iv 3, iv c3] [(.int (c3.toInt8.toInt32)), (.int 3), (.ref a2)])) rfl rfl (B d2_31)
  rw [own_i2b2] at W38
  have pre39 : Go p e bl T38 (mkF m 32 #[rv a1, iv 3, rv a2, iv 3, iv 9, iv 3, iv c3] []) s1 EF := fun t k => pre37 t (st38 t k)
  have O40 : Old Z n0 h38 := O30.wr W38 g_a2
  have Z40 : n0 ≤ h38.size := Nat.le_trans Z30 (Keep.of_wr W38).1
  have K40 : Keep h0 h38 [a2] := K30.wr W38 (Or.inl (mg 0 rfl))
  have V38 : Arv Z h38 a2 k2 .byte (9 : Int32) [(.int (c0.toInt8.toInt32)), (.int (c1.toInt8.toInt32)), (.int (c2.toInt8.toInt32)), (.int (c3.toInt8.toInt32)), (.int 0), (.int 0), (.int 0), (.int 0), (.int 0)] (.int 0) := Arv.set Ar38 q38 Sz38 M38 H38 G38 (fits_nar_byte _) W38 3 rfl (wl rfl)
  have N38 := Fr.snoc X38 N28 g_a2
  have pre41 : Go p e bl T38 (mkF m 7 #[rv a1, iv 4, rv a2, iv 4, iv 9, iv 4, iv c3] [(.int 9), (.int 4)]) s1 EF := fun t k => pre39 t (by
   refine XS.iinc X38.here hx rfl (B d2_32) rfl (l' := #[rv a1, iv 4, rv a2, iv 3, iv 9, iv 3, iv c3]) rfl ?_
   refine XS.iinc X38.here hx rfl (B d2_35) rfl (l' := #[rv a1, iv 4, rv a2, iv 4, iv 9, iv 3, iv c3]) rfl ?_
   refine XS.iinc X38.here hx rfl (B d2_38) rfl (l' := #[rv a1, iv 4, rv a2, iv 4, iv 9, iv 4, iv c3]) rfl ?_
   refine XS.goto X38.here hx rfl (pc0 := 41) (pc' := 3) rfl (B d2_41) (by decide) (by decide) ?_
   refine XS.iload X38.here hx rfl (B d2_3) rfl ?_
   exact XS.iload X38.here hx rfl (B d2_5) rfl k)
  have pre42 : Go p e bl T38 (mkF m 10 #[rv a1, iv 4, rv a2, iv 4, iv 9, iv 4, iv c3] []) s1 EF := fun t k => pre41 t (XS.icmpNo X38.here hx rfl (B d2_7) rfl (tlt (by decide : (4 : Int32) < (9 : Int32))).2.1 k)
  have pre43 : Go p e bl T38 (mkF m 12 #[rv a1, iv 4, rv a2, iv 4, iv 9, iv 4, iv c3] [(.int 4), (.ref a1)]) s1 EF := fun t k => pre42 t (by
   refine XS.aloadN X38.here hx rfl (B d2_10) rfl rfl ?_
   exact XS.iloadN X38.here hx rfl (B d2_11) rfl k)
  obtain ⟨cl44, Ar44, q44, Sz44, M44, H44, G44⟩ := id ((((V1.other W8 ne12).other W18 ne12).other W28 ne12).other W38 ne12)
  have hin44 := inb_of (j := (4 : Int32)) Sz44 ⟨by decide, by decide⟩
  have hat44 := Has.at (v := (.int c4)) H44 hin44 rfl
  have pre45 : Go p e bl T38 (mkF m 20 #[rv a1, iv 4, rv a2, iv 4, iv 9, iv 4, iv c4] [(.int 255), (.int c4)]) s1 EF := fun t k => pre43 t (by
   refine X38.caload hx (j := 4) (v := (.int c4)) (hp e38 Ar44) (State.isArrayOf_alike hZ.alike Ar44.2.1) Ar44.2.2 hin44 hat44 (g := (mkF m 12 #[rv a1, iv 4, rv a2, iv 4, iv 9, iv 4, iv c3] [(.int 4), (.ref a1)])) rfl rfl (B d2_12) _ ?_
   refine XS.istore X38.here hx rfl (B d2_13) rfl (l' := #[rv a1, iv 4, rv a2, iv 4, iv 9, iv 4, iv c4]) rfl ?_
   refine XS.iload X38.here hx rfl (B d2_15) rfl ?_
   exact XS.sipush X38.here hx rfl (B d2_17) k)
  have pre46 : Go p e bl T38 (mkF m 26 #[rv a1, iv 4, rv a2, iv 4, iv 9, iv 4, iv c4] []) s1 EF := fun t k => pre45 t (XS.icmpYes X38.here hx rfl (pc0 := 20) (pc' := 26) rfl (B d2_20) rfl (flt (hle c4 (mg 4 rfl))).2.2.2 (by decide) (by decide) k)
  have pre47 : Go p e bl T38 (mkF m 31 #[rv a1, iv 4, rv a2, iv 4, iv 9, iv 4, iv c4] [(.int (c4.toInt8.toInt32)), (.int 4), (.ref a2)]) s1 EF := fun t k => pre46 t (by
   refine XS.aloadN X38.here hx rfl (B d2_26) rfl rfl ?_
   refine XS.iloadN X38.here hx rfl (B d2_27) rfl ?_
   refine XS.iload X38.here hx rfl (B d2_28) rfl ?_
   exact XS.i2b X38.here hx rfl (B d2_30) rfl k)
  obtain ⟨cl48, Ar48, q48, Sz48, M48, H48, G48⟩ := id V38
  have hin48 := inb_of (j := (4 : Int32)) Sz48 ⟨by decide, by decide⟩
  obtain ⟨T48, h48, X48, e48, W48, st48⟩ := stB X38 hx hZ e38 Ar48 (j := 4) hin48 (g := (mkF m 31 #[rv a1, iv 4, rv a2, iv 4, iv 9, iv 4, iv c4] [(.int (c4.toInt8.toInt32)), (.int 4), (.ref a2)])) rfl rfl (B d2_31)
  rw [own_i2b2] at W48
  have pre49 : Go p e bl T48 (mkF m 32 #[rv a1, iv 4, rv a2, iv 4, iv 9, iv 4, iv c4] []) s1 EF := fun t k => pre47 t (st48 t k)
  have O50 : Old Z n0 h48 := O40.wr W48 g_a2
  have Z50 : n0 ≤ h48.size := Nat.le_trans Z40 (Keep.of_wr W48).1
  have K50 : Keep h0 h48 [a2] := K40.wr W48 (Or.inl (mg 0 rfl))
  have V48 : Arv Z h48 a2 k2 .byte (9 : Int32) [(.int (c0.toInt8.toInt32)), (.int (c1.toInt8.toInt32)), (.int (c2.toInt8.toInt32)), (.int (c3.toInt8.toInt32)), (.int (c4.toInt8.toInt32)), (.int 0), (.int 0), (.int 0), (.int 0)] (.int 0) := Arv.set Ar48 q48 Sz48 M48 H48 G48 (fits_nar_byte _) W48 4 rfl (wl rfl)
  have N48 := Fr.snoc X48 N38 g_a2
  have pre51 : Go p e bl T48 (mkF m 7 #[rv a1, iv 5, rv a2, iv 5, iv 9, iv 5, iv c4] [(.int 9), (.int 5)]) s1 EF := fun t k => pre49 t (by
   refine XS.iinc X48.here hx rfl (B d2_32) rfl (l' := #[rv a1, iv 5, rv a2, iv 4, iv 9, iv 4, iv c4]) rfl ?_
   refine XS.iinc X48.here hx rfl (B d2_35) rfl (l' := #[rv a1, iv 5, rv a2, iv 5, iv 9, iv 4, iv c4]) rfl ?_
   refine XS.iinc X48.here hx rfl (B d2_38) rfl (l' := #[rv a1, iv 5, rv a2, iv 5, iv 9, iv 5, iv c4]) rfl ?_
   refine XS.goto X48.here hx rfl (pc0 := 41) (pc' := 3) rfl (B d2_41) (by decide) (by decide) ?_
   refine XS.iload X48.here hx rfl (B d2_3) rfl ?_
   exact XS.iload X48.here hx rfl (B d2_5) rfl k)
  have pre52 : Go p e bl T48 (mkF m 10 #[rv a1, iv 5, rv a2, iv 5, iv 9, iv 5, iv c4] []) s1 EF := fun t k => pre51 t (XS.icmpNo X48.here hx rfl (B d2_7) rfl (tlt (by decide : (5 : Int32) < (9 : Int32))).2.1 k)
  have pre53 : Go p e bl T48 (mkF m 12 #[rv a1, iv 5, rv a2, iv 5, iv 9, iv 5, iv c4] [(.int 5), (.ref a1)]) s1 EF := fun t k => pre52 t (by
   refine XS.aloadN X48.here hx rfl (B d2_10) rfl rfl ?_
   exact XS.iloadN X48.here hx rfl (B d2_11) rfl k)
  obtain ⟨cl54, Ar54, q54, Sz54, M54, H54, G54⟩ := id (((((V1.other W8 ne12).other W18 ne12).other W28 ne12).other W38 ne12).other W48 ne12)
  have hin54 := inb_of (j := (5 : Int32)) Sz54 ⟨by decide, by decide⟩
  have hat54 := Has.at (v := (.int c5)) H54 hin54 rfl
  have pre55 : Go p e bl T48 (mkF m 20 #[rv a1, iv 5, rv a2, iv 5, iv 9, iv 5, iv c5] [(.int 255), (.int c5)]) s1 EF := fun t k => pre53 t (by
   refine X48.caload hx (j := 5) (v := (.int c5)) (hp e48 Ar54) (State.isArrayOf_alike hZ.alike Ar54.2.1) Ar54.2.2 hin54 hat54 (g := (mkF m 12 #[rv a1, iv 5, rv a2, iv 5, iv 9, iv 5, iv c4] [(.int 5), (.ref a1)])) rfl rfl (B d2_12) _ ?_
   refine XS.istore X48.here hx rfl (B d2_13) rfl (l' := #[rv a1, iv 5, rv a2, iv 5, iv 9, iv 5, iv c5]) rfl ?_
   refine XS.iload X48.here hx rfl (B d2_15) rfl ?_
   exact XS.sipush X48.here hx rfl (B d2_17) k)
  have pre56 : Go p e bl T48 (mkF m 26 #[rv a1, iv 5, rv a2, iv 5, iv 9, iv 5, iv c5] []) s1 EF := fun t k => pre55 t (XS.icmpYes X48.here hx rfl (pc0 := 20) (pc' := 26) rfl (B d2_20) rfl (flt (hle c5 (mg 5 rfl))).2.2.2 (by decide) (by decide) k)
  have pre57 : Go p e bl T48 (mkF m 31 #[rv a1, iv 5, rv a2, iv 5, iv 9, iv 5, iv c5] [(.int (c5.toInt8.toInt32)), (.int 5), (.ref a2)]) s1 EF := fun t k => pre56 t (by
   refine XS.aloadN X48.here hx rfl (B d2_26) rfl rfl ?_
   refine XS.iloadN X48.here hx rfl (B d2_27) rfl ?_
   refine XS.iload X48.here hx rfl (B d2_28) rfl ?_
   exact XS.i2b X48.here hx rfl (B d2_30) rfl k)
  obtain ⟨cl58, Ar58, q58, Sz58, M58, H58, G58⟩ := id V48
  have hin58 := inb_of (j := (5 : Int32)) Sz58 ⟨by decide, by decide⟩
  obtain ⟨T58, h58, X58, e58, W58, st58⟩ := stB X48 hx hZ e48 Ar58 (j := 5) hin58 (g := (mkF m 31 #[rv a1, iv 5, rv a2, iv 5, iv 9, iv 5, iv c5] [(.int (c5.toInt8.toInt32)), (.int 5), (.ref a2)])) rfl rfl (B d2_31)
  rw [own_i2b2] at W58
  have pre59 : Go p e bl T58 (mkF m 32 #[rv a1, iv 5, rv a2, iv 5, iv 9, iv 5, iv c5] []) s1 EF := fun t k => pre57 t (st58 t k)
  have O60 : Old Z n0 h58 := O50.wr W58 g_a2
  have Z60 : n0 ≤ h58.size := Nat.le_trans Z50 (Keep.of_wr W58).1
  have K60 : Keep h0 h58 [a2] := K50.wr W58 (Or.inl (mg 0 rfl))
  have V58 : Arv Z h58 a2 k2 .byte (9 : Int32) [(.int (c0.toInt8.toInt32)), (.int (c1.toInt8.toInt32)), (.int (c2.toInt8.toInt32)), (.int (c3.toInt8.toInt32)), (.int (c4.toInt8.toInt32)), (.int (c5.toInt8.toInt32)), (.int 0), (.int 0), (.int 0)] (.int 0) := Arv.set Ar58 q58 Sz58 M58 H58 G58 (fits_nar_byte _) W58 5 rfl (wl rfl)
  have N58 := Fr.snoc X58 N48 g_a2
  have pre61 : Go p e bl T58 (mkF m 7 #[rv a1, iv 6, rv a2, iv 6, iv 9, iv 6, iv c5] [(.int 9), (.int 6)]) s1 EF := fun t k => pre59 t (by
   refine XS.iinc X58.here hx rfl (B d2_32) rfl (l' := #[rv a1, iv 6, rv a2, iv 5, iv 9, iv 5, iv c5]) rfl ?_
   refine XS.iinc X58.here hx rfl (B d2_35) rfl (l' := #[rv a1, iv 6, rv a2, iv 6, iv 9, iv 5, iv c5]) rfl ?_
   refine XS.iinc X58.here hx rfl (B d2_38) rfl (l' := #[rv a1, iv 6, rv a2, iv 6, iv 9, iv 6, iv c5]) rfl ?_
   refine XS.goto X58.here hx rfl (pc0 := 41) (pc' := 3) rfl (B d2_41) (by decide) (by decide) ?_
   refine XS.iload X58.here hx rfl (B d2_3) rfl ?_
   exact XS.iload X58.here hx rfl (B d2_5) rfl k)
  have pre62 : Go p e bl T58 (mkF m 10 #[rv a1, iv 6, rv a2, iv 6, iv 9, iv 6, iv c5] []) s1 EF := fun t k => pre61 t (XS.icmpNo X58.here hx rfl (B d2_7) rfl (tlt (by decide : (6 : Int32) < (9 : Int32))).2.1 k)
  have pre63 : Go p e bl T58 (mkF m 12 #[rv a1, iv 6, rv a2, iv 6, iv 9, iv 6, iv c5] [(.int 6), (.ref a1)]) s1 EF := fun t k => pre62 t (by
   refine XS.aloadN X58.here hx rfl (B d2_10) rfl rfl ?_
   exact XS.iloadN X58.here hx rfl (B d2_11) rfl k)
  obtain ⟨cl64, Ar64, q64, Sz64, M64, H64, G64⟩ := id ((((((V1.other W8 ne12).other W18 ne12).other W28 ne12).other W38 ne12).other W48 ne12).other W58 ne12)
  have hin64 := inb_of (j := (6 : Int32)) Sz64 ⟨by decide, by decide⟩
  have hat64 := Has.at (v := (.int c6)) H64 hin64 rfl
  have pre65 : Go p e bl T58 (mkF m 20 #[rv a1, iv 6, rv a2, iv 6, iv 9, iv 6, iv c6] [(.int 255), (.int c6)]) s1 EF := fun t k => pre63 t (by
   refine X58.caload hx (j := 6) (v := (.int c6)) (hp e58 Ar64) (State.isArrayOf_alike hZ.alike Ar64.2.1) Ar64.2.2 hin64 hat64 (g := (mkF m 12 #[rv a1, iv 6, rv a2, iv 6, iv 9, iv 6, iv c5] [(.int 6), (.ref a1)])) rfl rfl (B d2_12) _ ?_
   refine XS.istore X58.here hx rfl (B d2_13) rfl (l' := #[rv a1, iv 6, rv a2, iv 6, iv 9, iv 6, iv c6]) rfl ?_
   refine XS.iload X58.here hx rfl (B d2_15) rfl ?_
   exact XS.sipush X58.here hx rfl (B d2_17) k)
  have pre66 : Go p e bl T58 (mkF m 26 #[rv a1, iv 6, rv a2, iv 6, iv 9, iv 6, iv c6] []) s1 EF := fun t k => pre65 t (XS.icmpYes X58.here hx rfl (pc0 := 20) (pc' := 26) rfl (B d2_20) rfl (flt (hle c6 (mg 6 rfl))).2.2.2 (by decide) (by decide) k)
  have pre67 : Go p e bl T58 (mkF m 31 #[rv a1, iv 6, rv a2, iv 6, iv 9, iv 6, iv c6] [(.int (c6.toInt8.toInt32)), (.int 6), (.ref a2)]) s1 EF := fun t k => pre66 t (by
   refine XS.aloadN X58.here hx rfl (B d2_26) rfl rfl ?_
   refine XS.iloadN X58.here hx rfl (B d2_27) rfl ?_
   refine XS.iload X58.here hx rfl (B d2_28) rfl ?_
   exact XS.i2b X58.here hx rfl (B d2_30) rfl k)
  obtain ⟨cl68, Ar68, q68, Sz68, M68, H68, G68⟩ := id V58
  have hin68 := inb_of (j := (6 : Int32)) Sz68 ⟨by decide, by decide⟩
  obtain ⟨T68, h68, X68, e68, W68, st68⟩ := stB X58 hx hZ e58 Ar68 (j := 6) hin68 (g := (mkF m 31 #[rv a1, iv 6, rv a2, iv 6, iv 9, iv 6, iv c6] [(.int (c6.toInt8.toInt32)), (.int 6), (.ref a2)])) rfl rfl (B d2_31)
  rw [own_i2b2] at W68
  have pre69 : Go p e bl T68 (mkF m 32 #[rv a1, iv 6, rv a2, iv 6, iv 9, iv 6, iv c6] []) s1 EF := fun t k => pre67 t (st68 t k)
  have O70 : Old Z n0 h68 := O60.wr W68 g_a2
  have Z70 : n0 ≤ h68.size := Nat.le_trans Z60 (Keep.of_wr W68).1
  have K70 : Keep h0 h68 [a2] := K60.wr W68 (Or.inl (mg 0 rfl))
  have V68 : Arv Z h68 a2 k2 .byte (9 : Int32) [(.int (c0.toInt8.toInt32)), (.int (c1.toInt8.toInt32)), (.int (c2.toInt8.toInt32)), (.int (c3.toInt8.toInt32)), (.int (c4.toInt8.toInt32)), (.int (c5.toInt8.toInt32)), (.int (c6.toInt8.toInt32)), (.int 0), (.int 0)] (.int 0) := Arv.set Ar68 q68 Sz68 M68 H68 G68 (fits_nar_byte _) W68 6 rfl (wl rfl)
  have N68 := Fr.snoc X68 N58 g_a2
  have pre71 : Go p e bl T68 (mkF m 7 #[rv a1, iv 7, rv a2, iv 7, iv 9, iv 7, iv c6] [(.int 9), (.int 7)]) s1 EF := fun t k => pre69 t (by
   refine XS.iinc X68.here hx rfl (B d2_32) rfl (l' := #[rv a1, iv 7, rv a2, iv 6, iv 9, iv 6, iv c6]) rfl ?_
   refine XS.iinc X68.here hx rfl (B d2_35) rfl (l' := #[rv a1, iv 7, rv a2, iv 7, iv 9, iv 6, iv c6]) rfl ?_
   refine XS.iinc X68.here hx rfl (B d2_38) rfl (l' := #[rv a1, iv 7, rv a2, iv 7, iv 9, iv 7, iv c6]) rfl ?_
   refine XS.goto X68.here hx rfl (pc0 := 41) (pc' := 3) rfl (B d2_41) (by decide) (by decide) ?_
   refine XS.iload X68.here hx rfl (B d2_3) rfl ?_
   exact XS.iload X68.here hx rfl (B d2_5) rfl k)
  have pre72 : Go p e bl T68 (mkF m 10 #[rv a1, iv 7, rv a2, iv 7, iv 9, iv 7, iv c6] []) s1 EF := fun t k => pre71 t (XS.icmpNo X68.here hx rfl (B d2_7) rfl (tlt (by decide : (7 : Int32) < (9 : Int32))).2.1 k)
  have pre73 : Go p e bl T68 (mkF m 12 #[rv a1, iv 7, rv a2, iv 7, iv 9, iv 7, iv c6] [(.int 7), (.ref a1)]) s1 EF := fun t k => pre72 t (by
   refine XS.aloadN X68.here hx rfl (B d2_10) rfl rfl ?_
   exact XS.iloadN X68.here hx rfl (B d2_11) rfl k)
  obtain ⟨cl74, Ar74, q74, Sz74, M74, H74, G74⟩ := id (((((((V1.other W8 ne12).other W18 ne12).other W28 ne12).other W38 ne12).other W48 ne12).other W58 ne12).other W68 ne12)
  have hin74 := inb_of (j := (7 : Int32)) Sz74 ⟨by decide, by decide⟩
  have hat74 := Has.at (v := (.int c7)) H74 hin74 rfl
  have pre75 : Go p e bl T68 (mkF m 20 #[rv a1, iv 7, rv a2, iv 7, iv 9, iv 7, iv c7] [(.int 255), (.int c7)]) s1 EF := fun t k => pre73 t (by
   refine X68.caload hx (j := 7) (v := (.int c7)) (hp e68 Ar74) (State.isArrayOf_alike hZ.alike Ar74.2.1) Ar74.2.2 hin74 hat74 (g := (mkF m 12 #[rv a1, iv 7, rv a2, iv 7, iv 9, iv 7, iv c6] [(.int 7), (.ref a1)])) rfl rfl (B d2_12) _ ?_
   refine XS.istore X68.here hx rfl (B d2_13) rfl (l' := #[rv a1, iv 7, rv a2, iv 7, iv 9, iv 7, iv c7]) rfl ?_
   refine XS.iload X68.here hx rfl (B d2_15) rfl ?_
   exact XS.sipush X68.here hx rfl (B d2_17) k)
  have pre76 : Go p e bl T68 (mkF m 26 #[rv a1, iv 7, rv a2, iv 7, iv 9, iv 7, iv c7] []) s1 EF := fun t k => pre75 t (XS.icmpYes X68.here hx rfl (pc0 := 20) (pc' := 26) rfl (B d2_20) rfl (flt (hle c7 (mg 7 rfl))).2.2.2 (by decide) (by decide) k)
  have pre77 : Go p e bl T68 (mkF m 31 #[rv a1, iv 7, rv a2, iv 7, iv 9, iv 7, iv c7] [(.int (c7.toInt8.toInt32)), (.int 7), (.ref a2)]) s1 EF := fun t k => pre76 t (by
   refine XS.aloadN X68.here hx rfl (B d2_26) rfl rfl ?_
   refine XS.iloadN X68.here hx rfl (B d2_27) rfl ?_
   refine XS.iload X68.here hx rfl (B d2_28) rfl ?_
   exact XS.i2b X68.here hx rfl (B d2_30) rfl k)
  obtain ⟨cl78, Ar78, q78, Sz78, M78, H78, G78⟩ := id V68
  have hin78 := inb_of (j := (7 : Int32)) Sz78 ⟨by decide, by decide⟩
  obtain ⟨T78, h78, X78, e78, W78, st78⟩ := stB X68 hx hZ e68 Ar78 (j := 7) hin78 (g := (mkF m 31 #[rv a1, iv 7, rv a2, iv 7, iv 9, iv 7, iv c7] [(.int (c7.toInt8.toInt32)), (.int 7), (.ref a2)])) rfl rfl (B d2_31)
  rw [own_i2b2] at W78
  have pre79 : Go p e bl T78 (mkF m 32 #[rv a1, iv 7, rv a2, iv 7, iv 9, iv 7, iv c7] []) s1 EF := fun t k => pre77 t (st78 t k)
  have O80 : Old Z n0 h78 := O70.wr W78 g_a2
  have Z80 : n0 ≤ h78.size := Nat.le_trans Z70 (Keep.of_wr W78).1
  have K80 : Keep h0 h78 [a2] := K70.wr W78 (Or.inl (mg 0 rfl))
  have V78 : Arv Z h78 a2 k2 .byte (9 : Int32) [(.int (c0.toInt8.toInt32)), (.int (c1.toInt8.toInt32)), (.int (c2.toInt8.toInt32)), (.int (c3.toInt8.toInt32)), (.int (c4.toInt8.toInt32)), (.int (c5.toInt8.toInt32)), (.int (c6.toInt8.toInt32)), (.int (c7.toInt8.toInt32)), (.int 0)] (.int 0) := Arv.set Ar78 q78 Sz78 M78 H78 G78 (fits_nar_byte _) W78 7 rfl (wl rfl)
  have N78 := Fr.snoc X78 N68 g_a2
  have pre81 : Go p e bl T78 (mkF m 7 #[rv a1, iv 8, rv a2, iv 8, iv 9, iv 8, iv c7] [(.int 9), (.int 8)]) s1 EF := fun t k => pre79 t (by
   refine XS.iinc X78.here hx rfl (B d2_32) rfl (l' := #[rv a1, iv 8, rv a2, iv 7, iv 9, iv 7, iv c7]) rfl ?_
   refine XS.iinc X78.here hx rfl (B d2_35) rfl (l' := #[rv a1, iv 8, rv a2, iv 8, iv 9, iv 7, iv c7]) rfl ?_
   refine XS.iinc X78.here hx rfl (B d2_38) rfl (l' := #[rv a1, iv 8, rv a2, iv 8, iv 9, iv 8, iv c7]) rfl ?_
   refine XS.goto X78.here hx rfl (pc0 := 41) (pc' := 3) rfl (B d2_41) (by decide) (by decide) ?_
   refine XS.iload X78.here hx rfl (B d2_3) rfl ?_
   exact XS.iload X78.here hx rfl (B d2_5) rfl k)
  have pre82 : Go p e bl T78 (mkF m 10 #[rv a1, iv 8, rv a2, iv 8, iv 9, iv 8, iv c7] []) s1 EF := fun t k => pre81 t (XS.icmpNo X78.here hx rfl (B d2_7) rfl (tlt (by decide : (8 : Int32) < (9 : Int32))).2.1 k)
  have pre83 : Go p e bl T78 (mkF m 12 #[rv a1, iv 8, rv a2, iv 8, iv 9, iv 8, iv c7] [(.int 8), (.ref a1)]) s1 EF := fun t k => pre82 t (by
   refine XS.aloadN X78.here hx rfl (B d2_10) rfl rfl ?_
   exact XS.iloadN X78.here hx rfl (B d2_11) rfl k)
  obtain ⟨cl84, Ar84, q84, Sz84, M84, H84, G84⟩ := id ((((((((V1.other W8 ne12).other W18 ne12).other W28 ne12).other W38 ne12).other W48 ne12).other W58 ne12).other W68 ne12).other W78 ne12)
  have hin84 := inb_of (j := (8 : Int32)) Sz84 ⟨by decide, by decide⟩
  have hat84 := Has.at (v := (.int c8)) H84 hin84 rfl
  have pre85 : Go p e bl T78 (mkF m 20 #[rv a1, iv 8, rv a2, iv 8, iv 9, iv 8, iv c8] [(.int 255), (.int c8)]) s1 EF := fun t k => pre83 t (by
   refine X78.caload hx (j := 8) (v := (.int c8)) (hp e78 Ar84) (State.isArrayOf_alike hZ.alike Ar84.2.1) Ar84.2.2 hin84 hat84 (g := (mkF m 12 #[rv a1, iv 8, rv a2, iv 8, iv 9, iv 8, iv c7] [(.int 8), (.ref a1)])) rfl rfl (B d2_12) _ ?_
   refine XS.istore X78.here hx rfl (B d2_13) rfl (l' := #[rv a1, iv 8, rv a2, iv 8, iv 9, iv 8, iv c8]) rfl ?_
   refine XS.iload X78.here hx rfl (B d2_15) rfl ?_
   exact XS.sipush X78.here hx rfl (B d2_17) k)
  have pre86 : Go p e bl T78 (mkF m 26 #[rv a1, iv 8, rv a2, iv 8, iv 9, iv 8, iv c8] []) s1 EF := fun t k => pre85 t (XS.icmpYes X78.here hx rfl (pc0 := 20) (pc' := 26) rfl (B d2_20) rfl (flt (hle c8 (mg 8 rfl))).2.2.2 (by decide) (by decide) k)
  have pre87 : Go p e bl T78 (mkF m 31 #[rv a1, iv 8, rv a2, iv 8, iv 9, iv 8, iv c8] [(.int (c8.toInt8.toInt32)), (.int 8), (.ref a2)]) s1 EF := fun t k => pre86 t (by
   refine XS.aloadN X78.here hx rfl (B d2_26) rfl rfl ?_
   refine XS.iloadN X78.here hx rfl (B d2_27) rfl ?_
   refine XS.iload X78.here hx rfl (B d2_28) rfl ?_
   exact XS.i2b X78.here hx rfl (B d2_30) rfl k)
  obtain ⟨cl88, Ar88, q88, Sz88, M88, H88, G88⟩ := id V78
  have hin88 := inb_of (j := (8 : Int32)) Sz88 ⟨by decide, by decide⟩
  obtain ⟨T88, h88, X88, e88, W88, st88⟩ := stB X78 hx hZ e78 Ar88 (j := 8) hin88 (g := (mkF m 31 #[rv a1, iv 8, rv a2, iv 8, iv 9, iv 8, iv c8] [(.int (c8.toInt8.toInt32)), (.int 8), (.ref a2)])) rfl rfl (B d2_31)
  rw [own_i2b2] at W88
  have pre89 : Go p e bl T88 (mkF m 32 #[rv a1, iv 8, rv a2, iv 8, iv 9, iv 8, iv c8] []) s1 EF := fun t k => pre87 t (st88 t k)
  have O90 : Old Z n0 h88 := O80.wr W88 g_a2
  have Z90 : n0 ≤ h88.size := Nat.le_trans Z80 (Keep.of_wr W88).1
  have K90 : Keep h0 h88 [a2] := K80.wr W88 (Or.inl (mg 0 rfl))
  have V88 : Arv Z h88 a2 k2 .byte (9 : Int32) [(.int (c0.toInt8.toInt32)), (.int (c1.toInt8.toInt32)), (.int (c2.toInt8.toInt32)), (.int (c3.toInt8.toInt32)), (.int (c4.toInt8.toInt32)), (.int (c5.toInt8.toInt32)), (.int (c6.toInt8.toInt32)), (.int (c7.toInt8.toInt32)), (.int (c8.toInt8.toInt32))] (.int 0) := Arv.set Ar88 q88 Sz88 M88 H88 G88 (fits_nar_byte _) W88 8 rfl (wl rfl)
  have N88 := Fr.snoc X88 N78 g_a2
  have pre91 : Go p e bl T88 (mkF m 7 #[rv a1, iv 9, rv a2, iv 9, iv 9, iv 9, iv c8] [(.int 9), (.int 9)]) s1 EF := fun t k => pre89 t (by
   refine XS.iinc X88.here hx rfl (B d2_32) rfl (l' := #[rv a1, iv 9, rv a2, iv 8, iv 9, iv 8, iv c8]) rfl ?_
   refine XS.iinc X88.here hx rfl (B d2_35) rfl (l' := #[rv a1, iv 9, rv a2, iv 9, iv 9, iv 8, iv c8]) rfl ?_
   refine XS.iinc X88.here hx rfl (B d2_38) rfl (l' := #[rv a1, iv 9, rv a2, iv 9, iv 9, iv 9, iv c8]) rfl ?_
   refine XS.goto X88.here hx rfl (pc0 := 41) (pc' := 3) rfl (B d2_41) (by decide) (by decide) ?_
   refine XS.iload X88.here hx rfl (B d2_3) rfl ?_
   exact XS.iload X88.here hx rfl (B d2_5) rfl k)
  have pre92 : Go p e bl T88 (mkF m 44 #[rv a1, iv 9, rv a2, iv 9, iv 9, iv 9, iv c8] []) s1 EF := fun t k => pre91 t (XS.icmpYes X88.here hx rfl (pc0 := 7) (pc' := 44) rfl (B d2_7) rfl (flt (by decide : ¬ ((9 : Int32) < (9 : Int32)))).2.1 (by decide) (by decide) k)
  have pre93 : Go p e bl T88 (mkF m 46 #[rv a1, iv 9, rv a2, iv 9, iv 9, iv 9, iv c8] [(.int 9)]) s1 EF := fun t k => pre92 t (by
   exact XS.iload X88.here hx rfl (B d2_44) rfl k)
  exact fin1 X88 (v := some (.int 9)) hrt hlk (wl rfl) (wl rfl) (by rw [e88]; exact ⟨rfl, N88, K90, V88⟩) (fun fs hr => hEF ▸ pre93 _ (retOut X88 hx Bd.returns rfl (Or.inl ⟨rfl, Or.inl rfl, _, rfl⟩) (B d2_46) hr))
abbrev rKKb9 : Room := { frames := 1, cells := 1, slots := 10, locals := 18 }
theorem efKb9 (m : MethodId) (a1 : Addr) : entryFrame m #[(.ref a1), (.int 0), (.int 9)] 6 = mkF m 0 #[rv a1, iv 0, iv 9, .unset, .unset, .unset] [] := by first | (simp [entryFrame, mkF, argsToLocals, Value.category]; done) | rfl
def QKb9 (Z : State) (a1 : Addr) (cz : Int32) (fv : Value) (k1 : ClassId) (c0 : Int32) (c1 : Int32) (c2 : Int32) (c3 : Int32) (c4 : Int32) (c5 : Int32) (c6 : Int32) (c7 : Int32) (c8 : Int32) (h0 : Heap) (n0 : Nat) (v : Option Value) (h : Heap) (L : List Loc) : Prop := ∃ b k, v = some (.ref b) ∧ Fr n0 L ∧ Keep h0 h [] ∧ h0.size ≤ b ∧ Arv Z h b k .byte (9 : Int32) [(.int (c0.toInt8.toInt32)), (.int (c1.toInt8.toInt32)), (.int (c2.toInt8.toInt32)), (.int (c3.toInt8.toInt32)), (.int (c4.toInt8.toInt32)), (.int (c5.toInt8.toInt32)), (.int (c6.toInt8.toInt32)), (.int (c7.toInt8.toInt32)), (.int (c8.toInt8.toInt32))] (.int 0)
set_option maxRecDepth 65536 in
set_option maxHeartbeats 40000000 in
theorem rmKb9 (l : Launch) (Z : State) (a0 : Array Value) (hw : HW a0 Z) (ws : List Jvm.Cond) (a1 : Addr) (cz : Int32) (fv : Value) (k1 : ClassId) (c0 : Int32) (c1 : Int32) (c2 : Int32) (c3 : Int32) (c4 : Int32) (c5 : Int32) (c6 : Int32) (c7 : Int32) (c8 : Int32) (h0 : Heap) (n0 : Nat) (Z0 : n0 ≤ h0.size) (O0 : Old Z n0 h0) (J0 : Jd Z cz fv) (V1 : Arv Z h0 a1 k1 .char (9 : Int32) [(.int c0), (.int c1), (.int c2), (.int c3), (.int c4), (.int c5), (.int c6), (.int c7), (.int c8)] (.int 0)) (hle : (∀ c ∈ [c0, c1, c2, c3, c4, c5, c6, c7, c8], ¬ (255 : Int32) < c)) :
    MF l Z mN3 jdk_52_method_16_code 6 (some (.array .byte)) ws rKKb9 #[(.ref a1), (.int 0), (.int 9)] h0 (QKb9 Z a1 cz fv k1 c0 c1 c2 c3 c4 c5 c6 c7 c8 h0 n0) := by
  refine MetFree.of_bodySF (plainFor_of_name pn2) hisR ?_
  intro p e s m args bl meth c s1 Bd hml0 hP hK
  obtain ⟨rfl, hZ, hh⟩ := hP
  have hx := Bd.exec
  have hby := Bd.bytes
  have B := @hb c _ hby
  have hM := fun {n : Nat} (h : n = 6) => h.trans hml0.symm
  have hown : s.vm.findClass "java/lang/StringUTF16" = some m.cls := findClass_of_methodNamed Bd.named
  have hlk : meth.locks = false := BodyLoose.notSynchronized Bd
  have hrt : ∀ {v : Option Value}, meth.sig.returnType = none → v = none := fun h => by rw [Bd.returns] at h; cases h
  have X0 : Stand p l e rKKb9 s m #[(.ref a1), (.int 0), (.int 9)] bl meth c s1 [] 0 0 := Stand.of_body Bd
  have e0 : s1.heap = h0 := by rw [← hh, Bd.state]; rfl
  have N0 := Fr.nil n0
  obtain ⟨EF, hEF⟩ : ∃ f, f = entryFrame m #[(.ref a1), (.int 0), (.int 9)] 6 := ⟨_, rfl⟩
  have pre0 : Go p e bl s1 (mkF m 0 #[rv a1, iv 0, iv 9, .unset, .unset, .unset] []) s1 EF := fun t k => by rw [hEF]; exact castTop (efKb9 m a1) k
  have pre1 : Go p e bl s1 (mkF m 1 #[rv a1, iv 0, iv 9, .unset, .unset, .unset] [(.int 9)]) s1 EF := fun t k => pre0 t (by
   exact XS.iloadN X0.here hx rfl (B d3_0) rfl k)
  obtain ⟨T2, h2, k2, X2, e2, Et2, A2, st2⟩ := newP X0 hx hZ (hw _ (mW 23 rfl)) e0 (g := (mkF m 1 #[rv a1, iv 0, iv 9, .unset, .unset, .unset] [(.int 9)])) rfl (B d3_1) rfl (by decide) (cap := 9) (by decide) (by decide) (by decide) (by decide)
  obtain ⟨b2, g2⟩ : ∃ z, z = h0.size := ⟨_, rfl⟩
  rw [← g2] at A2 st2
  have g_b2 : n0 ≤ b2 := Nat.le_trans Z0 (Nat.le_of_eq g2.symm)
  have sz_b2 : h0.size ≤ b2 := Nat.le_trans (Keep.refl h0 []).1 (Nat.le_of_eq g2.symm)
  have ne_a1_b2 : a1 ≠ b2 := Nat.ne_of_lt (Nat.lt_of_lt_of_le V1.lt (Nat.le_of_eq g2.symm))
  have pre3 : Go p e bl T2 (mkF m 3 #[rv a1, iv 0, iv 9, .unset, .unset, .unset] [(.ref b2)]) s1 EF := fun t k => pre1 t (st2 t k)
  have O4 : Old Z n0 h2 := O0.ext Et2
  have Z4 : n0 ≤ h2.size := Nat.le_trans Z0 Et2.1
  have K4 : Keep h0 h2 [] := (Keep.refl h0 []).ext Et2
  have V2 : Arv Z h2 b2 k2 .byte (9 : Int32) [(.int 0), (.int 0), (.int 0), (.int 0), (.int 0), (.int 0), (.int 0), (.int 0), (.int 0)] (.int 0) := (Arv.new A2 (by decide)).pad (pad_rep [] (.int 0) 9)
  have pre5 : Go p e bl T2 (mkF m 9 #[rv a1, iv 0, iv 9, rv b2, .unset, .unset] [(.int 9), (.int 0), (.ref b2), (.int 0), (.ref a1)]) s1 EF := fun t k => pre3 t (by
   refine XS.astoreN X2.here hx rfl (B d3_3) rfl rfl (l' := #[rv a1, iv 0, iv 9, rv b2, .unset, .unset]) rfl ?_
   refine XS.aloadN X2.here hx rfl (B d3_4) rfl rfl ?_
   refine XS.iloadN X2.here hx rfl (B d3_5) rfl ?_
   refine XS.aloadN X2.here hx rfl (B d3_6) rfl rfl ?_
   refine XS.iconst X2.here hx rfl (B d3_7) ?_
   exact XS.iloadN X2.here hx rfl (B d3_8) rfl k)
  obtain ⟨_, _, ⟨T6, L6, k6, n6⟩, -, X6, ⟨Lc6, hQ6, l6, y6, z6⟩, st6⟩ := Jvm.LawKit.callS X2 hx (y := mN2) hown (mvT hZ (hw _ (mW 24 rfl))) (mvT hZ (hw _ (mW 25 rfl))) (mvT hZ (hw _ (mW 21 rfl))) (mvT hZ (hw _ (mW 26 rfl))) (by decide) (backOf (W := 0) (rmKa9 l Z a0 hw [] a1 b2 cz fv k1 k2 c0 c1 c2 c3 c4 c5 c6 c7 c8 h2 n0 Z4 O4 J0 (V1.ext Et2) V2 ne_a1_b2 g_b2 hle) hZ (hw _ (mW 26 rfl)) (hw _ (mW 21 rfl)) (by decide) (by decide)) (g := (mkF m 9 #[rv a1, iv 0, iv 9, rv b2, .unset, .unset] [(.int 9), (.int 0), (.ref b2), (.int 0), (.ref a1)])) rfl (hM rfl) (argsL := [(.ref a1), (.int 0), (.ref b2), (.int 0), (.int 9)]) (rest := []) (lenOf pd1 rfl) rfl (Nat.le_of_eq rfl) (B d3_9) (fun _ _ => ⟨rfl, e2, wl rfl, wl rfl⟩)
  dsimp only [Pt.U, Pt.locs, Pt.cells, Pt.slots] at X6 l6 y6 z6 st6 hQ6
  subst l6 y6 z6
  obtain ⟨rfl, N6q, K6, VL6⟩ := hQ6
  have N6 := Fr.app N0 N6q
  have pre7 : Go p e bl T6 (mkF m 12 #[rv a1, iv 0, iv 9, rv b2, .unset, .unset] [(.int 9)]) s1 EF := fun t k => pre5 t (st6 t k)
  have O8 : Old Z n0 T6.heap := O4.keep K6 (allS g_b2 all0)
  have Z8 : n0 ≤ T6.heap.size := Nat.le_trans Z4 K6.1
  have K8 : Keep h0 T6.heap [] := K4.trans K6 (allS (Or.inr sz_b2) all0)
  have pre9 : Go p e bl T6 (mkF m 17 #[rv a1, iv 0, iv 9, rv b2, iv 9, .unset] [(.int 9), (.int 9)]) s1 EF := fun t k => pre7 t (by
   refine XS.istore X6.here hx rfl (B d3_12) rfl (l' := #[rv a1, iv 0, iv 9, rv b2, iv 9, .unset]) rfl ?_
   refine XS.iload X6.here hx rfl (B d3_14) rfl ?_
   exact XS.iloadN X6.here hx rfl (B d3_16) rfl k)
  have pre10 : Go p e bl T6 (mkF m 57 #[rv a1, iv 0, iv 9, rv b2, iv 9, .unset] []) s1 EF := fun t k => pre9 t (XS.icmpYes X6.here hx rfl (pc0 := 17) (pc' := 57) rfl (B d3_17) rfl (teq (by decide : (9 : Int32) = (9 : Int32))).1 (by decide) (by decide) k)
  have pre11 : Go p e bl T6 (mkF m 58 #[rv a1, iv 0, iv 9, rv b2, iv 9, .unset] [(.ref b2)]) s1 EF := fun t k => pre10 t (by
   exact XS.aloadN X6.here hx rfl (B d3_57) rfl rfl k)
  exact fin1 X6 (v := some (.ref b2)) hrt hlk (wl rfl) (wl rfl) (by exact ⟨_, _, rfl, N6, K8, sz_b2, VL6⟩) (fun fs hr => hEF ▸ pre11 _ (retOut X6 hx Bd.returns rfl (Or.inr (Or.inr (Or.inr (Or.inr ⟨rfl, rfl, rfl⟩)))) (B d3_58) hr))
abbrev rKKa8 : Room := { frames := 0, cells := 0, slots := 0, locals := 0 }
theorem efKa8 (m : MethodId) (a1 : Addr) (a2 : Addr) : entryFrame m #[(.ref a1), (.int 0), (.ref a2), (.int 0), (.int 8)] 7 = mkF m 0 #[rv a1, iv 0, rv a2, iv 0, iv 8, .unset, .unset] [] := by first | (simp [entryFrame, mkF, argsToLocals, Value.category]; done) | rfl
def QKa8 (Z : State) (a1 : Addr) (a2 : Addr) (cz : Int32) (fv : Value) (k1 : ClassId) (k2 : ClassId) (c0 : Int32) (c1 : Int32) (c2 : Int32) (c3 : Int32) (c4 : Int32) (c5 : Int32) (c6 : Int32) (c7 : Int32) (h0 : Heap) (n0 : Nat) (v : Option Value) (h : Heap) (L : List Loc) : Prop := v = some (.int 8) ∧ Fr n0 L ∧ Keep h0 h [a2] ∧ Arv Z h a2 k2 .byte (8 : Int32) [(.int (c0.toInt8.toInt32)), (.int (c1.toInt8.toInt32)), (.int (c2.toInt8.toInt32)), (.int (c3.toInt8.toInt32)), (.int (c4.toInt8.toInt32)), (.int (c5.toInt8.toInt32)), (.int (c6.toInt8.toInt32)), (.int (c7.toInt8.toInt32))] (.int 0)
set_option maxRecDepth 65536 in
set_option maxHeartbeats 40000000 in
theorem rmKa8 (l : Launch) (Z : State) (a0 : Array Value) (hw : HW a0 Z) (ws : List Jvm.Cond) (a1 : Addr) (a2 : Addr) (cz : Int32) (fv : Value) (k1 : ClassId) (k2 : ClassId) (c0 : Int32) (c1 : Int32) (c2 : Int32) (c3 : Int32) (c4 : Int32) (c5 : Int32) (c6 : Int32) (c7 : Int32) (h0 : Heap) (n0 : Nat) (Z0 : n0 ≤ h0.size) (O0 : Old Z n0 h0) (J0 : Jd Z cz fv) (V1 : Arv Z h0 a1 k1 .char (8 : Int32) [(.int c0), (.int c1), (.int c2), (.int c3), (.int c4), (.int c5), (.int c6), (.int c7)] (.int 0)) (V2 : Arv Z h0 a2 k2 .byte (8 : Int32) [(.int 0), (.int 0), (.int 0), (.int 0), (.int 0), (.int 0), (.int 0), (.int 0)] (.int 0)) (ne12 : a1 ≠ a2) (g_a2 : n0 ≤ a2) (hle : (∀ c ∈ [c0, c1, c2, c3, c4, c5, c6, c7], ¬ (255 : Int32) < c)) :
    MF l Z mN2 jdk_52_method_21_code 7 (some .int) ws rKKa8 #[(.ref a1), (.int 0), (.ref a2), (.int 0), (.int 8)] h0 (QKa8 Z a1 a2 cz fv k1 k2 c0 c1 c2 c3 c4 c5 c6 c7 h0 n0) := by
  refine MetFree.of_bodySF (plainFor_of_name pn2) hisR ?_
  intro p e s m args bl meth c s1 Bd hml0 hP hK
  obtain ⟨rfl, hZ, hh⟩ := hP
  have hx := Bd.exec
  have hby := Bd.bytes
  have B := @hb c _ hby
  have hown : s.vm.findClass "java/lang/StringUTF16" = some m.cls := findClass_of_methodNamed Bd.named
  have hlk : meth.locks = false := BodyLoose.notSynchronized Bd
  have hrt : ∀ {v : Option Value}, meth.sig.returnType = none → v = none := fun h => by rw [Bd.returns] at h; cases h
  have X0 : Stand p l e rKKa8 s m #[(.ref a1), (.int 0), (.ref a2), (.int 0), (.int 8)] bl meth c s1 [] 0 0 := Stand.of_body Bd
  have e0 : s1.heap = h0 := by rw [← hh, Bd.state]; rfl
  have N0 := Fr.nil n0
  obtain ⟨EF, hEF⟩ : ∃ f, f = entryFrame m #[(.ref a1), (.int 0), (.ref a2), (.int 0), (.int 8)] 7 := ⟨_, rfl⟩
  have pre0 : Go p e bl s1 (mkF m 0 #[rv a1, iv 0, rv a2, iv 0, iv 8, .unset, .unset] []) s1 EF := fun t k => by rw [hEF]; exact castTop (efKa8 m a1 a2) k
  have pre1 : Go p e bl s1 (mkF m 7 #[rv a1, iv 0, rv a2, iv 0, iv 8, iv 0, .unset] [(.int 8), (.int 0)]) s1 EF := fun t k => pre0 t (by
   refine XS.iconst X0.here hx rfl (B d2_0) ?_
   refine XS.istore X0.here hx rfl (B d2_1) rfl (l' := #[rv a1, iv 0, rv a2, iv 0, iv 8, iv 0, .unset]) rfl ?_
   refine XS.iload X0.here hx rfl (B d2_3) rfl ?_
   exact XS.iload X0.here hx rfl (B d2_5) rfl k)
  have pre2 : Go p e bl s1 (mkF m 10 #[rv a1, iv 0, rv a2, iv 0, iv 8, iv 0, .unset] []) s1 EF := fun t k => pre1 t (XS.icmpNo X0.here hx rfl (B d2_7) rfl (tlt (by decide : (0 : Int32) < (8 : Int32))).2.1 k)
  have pre3 : Go p e bl s1 (mkF m 12 #[rv a1, iv 0, rv a2, iv 0, iv 8, iv 0, .unset] [(.int 0), (.ref a1)]) s1 EF := fun t k => pre2 t (by
   refine XS.aloadN X0.here hx rfl (B d2_10) rfl rfl ?_
   exact XS.iloadN X0.here hx rfl (B d2_11) rfl k)
  obtain ⟨cl4, Ar4, q4, Sz4, M4, H4, G4⟩ := id V1
  have hin4 := inb_of (j := (0 : Int32)) Sz4 ⟨by decide, by decide⟩
  have hat4 := Has.at (v := (.int c0)) H4 hin4 rfl
  have pre5 : Go p e bl s1 (mkF m 20 #[rv a1, iv 0, rv a2, iv 0, iv 8, iv 0, iv c0] [(.int 255), (.int c0)]) s1 EF := fun t k => pre3 t (by
   refine X0.caload hx (j := 0) (v := (.int c0)) (hp e0 Ar4) (State.isArrayOf_alike hZ.alike Ar4.2.1) Ar4.2.2 hin4 hat4 (g := (mkF m 12 #[rv a1, iv 0, rv a2, iv 0, iv 8, iv 0, .unset] [(.int 0), (.ref a1)])) rfl rfl (B d2_12) _ ?_
   refine XS.istore X0.here hx rfl (B d2_13) rfl (l' := #[rv a1, iv 0, rv a2, iv 0, iv 8, iv 0, iv c0]) rfl ?_
   refine XS.iload X0.here hx rfl (B d2_15) rfl ?_
   exact XS.sipush X0.here hx rfl (B d2_17) k)
  have pre6 : Go p e bl s1 (mkF m 26 #[rv a1, iv 0, rv a2, iv 0, iv 8, iv 0, iv c0] []) s1 EF := fun t k => pre5 t (XS.icmpYes X0.here hx rfl (pc0 := 20) (pc' := 26) rfl (B d2_20) rfl (flt (hle c0 (mg 0 rfl))).2.2.2 (by decide) (by decide) k)
  have pre7 : Go p e bl s1 (mkF m 31 #[rv a1, iv 0, rv a2, iv 0, iv 8, iv 0, iv c0] [(.int (c0.toInt8.toInt32)), (.int 0), (.ref a2)]) s1 EF := fun t k => pre6 t (by
   refine XS.aloadN X0.here hx rfl (B d2_26) rfl rfl ?_
   refine XS.iloadN X0.here hx rfl (B d2_27) rfl ?_
   refine XS.iload X0.here hx rfl (B d2_28) rfl ?_
   exact XS.i2b X0.here hx rfl (B d2_30) rfl k)
  obtain ⟨cl8, Ar8, q8, Sz8, M8, H8, G8⟩ := id V2
  have hin8 := inb_of (j := (0 : Int32)) Sz8 ⟨by decide, by decide⟩
  obtain ⟨T8, h8, X8, e8, W8, st8⟩ := stB X0 hx hZ e0 Ar8 (j := 0) hin8 (g := (mkF m 31 #[rv a1, iv 0, rv a2, iv 0, iv 8, iv 0, iv c0] [(.int (c0.toInt8.toInt32)), (.int 0), (.ref a2)])) rfl rfl (B d2_31)
  rw [own_i2b2] at W8
  have pre9 : Go p e bl T8 (mkF m 32 #[rv a1, iv 0, rv a2, iv 0, iv 8, iv 0, iv c0] []) s1 EF := fun t k => pre7 t (st8 t k)
  have O10 : Old Z n0 h8 := O0.wr W8 g_a2
  have Z10 : n0 ≤ h8.size := Nat.le_trans Z0 (Keep.of_wr W8).1
  have K10 : Keep h0 h8 [a2] := (Keep.refl h0 [a2]).wr W8 (Or.inl (mg 0 rfl))
  have V8 : Arv Z h8 a2 k2 .byte (8 : Int32) [(.int (c0.toInt8.toInt32)), (.int 0), (.int 0), (.int 0), (.int 0), (.int 0), (.int 0), (.int 0)] (.int 0) := Arv.set Ar8 q8 Sz8 M8 H8 G8 (fits_nar_byte _) W8 0 rfl (wl rfl)
  have N8 := Fr.snoc X8 N0 g_a2
  have pre11 : Go p e bl T8 (mkF m 7 #[rv a1, iv 1, rv a2, iv 1, iv 8, iv 1, iv c0] [(.int 8), (.int 1)]) s1 EF := fun t k => pre9 t (by
   refine XS.iinc X8.here hx rfl (B d2_32) rfl (l' := #[rv a1, iv 1, rv a2, iv 0, iv 8, iv 0, iv c0]) rfl ?_
   refine XS.iinc X8.here hx rfl (B d2_35) rfl (l' := #[rv a1, iv 1, rv a2, iv 1, iv 8, iv 0, iv c0]) rfl ?_
   refine XS.iinc X8.here hx rfl (B d2_38) rfl (l' := #[rv a1, iv 1, rv a2, iv 1, iv 8, iv 1, iv c0]) rfl ?_
   refine XS.goto X8.here hx rfl (pc0 := 41) (pc' := 3) rfl (B d2_41) (by decide) (by decide) ?_
   refine XS.iload X8.here hx rfl (B d2_3) rfl ?_
   exact XS.iload X8.here hx rfl (B d2_5) rfl k)
  have pre12 : Go p e bl T8 (mkF m 10 #[rv a1, iv 1, rv a2, iv 1, iv 8, iv 1, iv c0] []) s1 EF := fun t k => pre11 t (XS.icmpNo X8.here hx rfl (B d2_7) rfl (tlt (by decide : (1 : Int32) < (8 : Int32))).2.1 k)
  have pre13 : Go p e bl T8 (mkF m 12 #[rv a1, iv 1, rv a2, iv 1, iv 8, iv 1, iv c0] [(.int 1), (.ref a1)]) s1 EF := fun t k => pre12 t (by
   refine XS.aloadN X8.here hx rfl (B d2_10) rfl rfl ?_
   exact XS.iloadN X8.here hx rfl (B d2_11) rfl k)
  obtain ⟨cl14, Ar14, q14, Sz14, M14, H14, G14⟩ := id (V1.other W8 ne12)
  have hin14 := inb_of (j := (1 : Int32)) Sz14 ⟨by decide, by decide⟩
  have hat14 := Has.at (v := (.int c1)) H14 hin14 rfl
  have pre15 : Go p e bl T8 (mkF m 20 #[rv a1, iv 1, rv a2, iv 1, iv 8, iv 1, iv c1] [(.int 255), (.int c1)]) s1 EF := fun t k => pre13 t (by
   refine X8.caload hx (j := 1) (v := (.int c1)) (hp e8 Ar14) (State.isArrayOf_alike hZ.alike Ar14.2.1) Ar14.2.2 hin14 hat14 (g := (mkF m 12 #[rv a1, iv 1, rv a2, iv 1, iv 8, iv 1, iv c0] [(.int 1), (.ref a1)])) rfl rfl (B d2_12) _ ?_
   refine XS.istore X8.here hx rfl (B d2_13) rfl (l' := #[rv a1, iv 1, rv a2, iv 1, iv 8, iv 1, iv c1]) rfl ?_
   refine XS.iload X8.here hx rfl (B d2_15) rfl ?_
   exact XS.sipush X8.here hx rfl (B d2_17) k)
  have pre16 : Go p e bl T8 (mkF m 26 #[rv a1, iv 1, rv a2, iv 1, iv 8, iv 1, iv c1] []) s1 EF := fun t k => pre15 t (XS.icmpYes X8.here hx rfl (pc0 := 20) (pc' := 26) rfl (B d2_20) rfl (flt (hle c1 (mg 1 rfl))).2.2.2 (by decide) (by decide) k)
  have pre17 : Go p e bl T8 (mkF m 31 #[rv a1, iv 1, rv a2, iv 1, iv 8, iv 1, iv c1] [(.int (c1.toInt8.toInt32)), (.int 1), (.ref a2)]) s1 EF := fun t k => pre16 t (by
   refine XS.aloadN X8.here hx rfl (B d2_26) rfl rfl ?_
   refine XS.iloadN X8.here hx rfl (B d2_27) rfl ?_
   refine XS.iload X8.here hx rfl (B d2_28) rfl ?_
   exact XS.i2b X8.here hx rfl (B d2_30) rfl k)
  obtain ⟨cl18, Ar18, q18, Sz18, M18, H18, G18⟩ := id V8
  have hin18 := inb_of (j := (1 : Int32)) Sz18 ⟨by decide, by decide⟩
  obtain ⟨T18, h18, X18, e18, W18, st18⟩ := stB X8 hx hZ e8 Ar18 (j := 1) hin18 (g := (mkF m 31 #[rv a1, iv 1, rv a2, iv 1, iv 8, iv 1, iv c1] [(.int (c1.toInt8.toInt32)), (.int 1), (.ref a2)])) rfl rfl (B d2_31)
  rw [own_i2b2] at W18
  have pre19 : Go p e bl T18 (mkF m 32 #[rv a1, iv 1, rv a2, iv 1, iv 8, iv 1, iv c1] []) s1 EF := fun t k => pre17 t (st18 t k)
  have O20 : Old Z n0 h18 := O10.wr W18 g_a2
  have Z20 : n0 ≤ h18.size := Nat.le_trans Z10 (Keep.of_wr W18).1
  have K20 : Keep h0 h18 [a2] := K10.wr W18 (Or.inl (mg 0 rfl))
  have V18 : Arv Z h18 a2 k2 .byte (8 : Int32) [(.int (c0.toInt8.toInt32)), (.int (c1.toInt8.toInt32)), (.int 0), (.int 0), (.int 0), (.int 0), (.int 0), (.int 0)] (.int 0) := Arv.set Ar18 q18 Sz18 M18 H18 G18 (fits_nar_byte _) W18 1 rfl (wl rfl)
  have N18 := Fr.snoc X18 N8 g_a2
  have pre21 : Go p e bl T18 (mkF m 7 #[rv a1, iv 2, rv a2, iv 2, iv 8, iv 2, iv c1] [(.int 8), (.int 2)]) s1 EF := fun t k => pre19 t (by
   refine XS.iinc X18.here hx rfl (B d2_32) rfl (l' := #[rv a1, iv 2, rv a2, iv 1, iv 8, iv 1, iv c1]) rfl ?_
   refine XS.iinc X18.here hx rfl (B d2_35) rfl (l' := #[rv a1, iv 2, rv a2, iv 2, iv 8, iv 1, iv c1]) rfl ?_
   refine XS.iinc X18.here hx rfl (B d2_38) rfl (l' := #[rv a1, iv 2, rv a2, iv 2, iv 8, iv 2, iv c1]) rfl ?_
   refine XS.goto X18.here hx rfl (pc0 := 41) (pc' := 3) rfl (B d2_41) (by decide) (by decide) ?_
   refine XS.iload X18.here hx rfl (B d2_3) rfl ?_
   exact XS.iload X18.here hx rfl (B d2_5) rfl k)
  have pre22 : Go p e bl T18 (mkF m 10 #[rv a1, iv 2, rv a2, iv 2, iv 8, iv 2, iv c1] []) s1 EF := fun t k => pre21 t (XS.icmpNo X18.here hx rfl (B d2_7) rfl (tlt (by decide : (2 : Int32) < (8 : Int32))).2.1 k)
  have pre23 : Go p e bl T18 (mkF m 12 #[rv a1, iv 2, rv a2, iv 2, iv 8, iv 2, iv c1] [(.int 2), (.ref a1)]) s1 EF := fun t k => pre22 t (by
   refine XS.aloadN X18.here hx rfl (B d2_10) rfl rfl ?_
   exact XS.iloadN X18.here hx rfl (B d2_11) rfl k)
  obtain ⟨cl24, Ar24, q24, Sz24, M24, H24, G24⟩ := id ((V1.other W8 ne12).other W18 ne12)
  have hin24 := inb_of (j := (2 : Int32)) Sz24 ⟨by decide, by decide⟩
  have hat24 := Has.at (v := (.int c2)) H24 hin24 rfl
  have pre25 : Go p e bl T18 (mkF m 20 #[rv a1, iv 2, rv a2, iv 2, iv 8, iv 2, iv c2] [(.int 255), (.int c2)]) s1 EF := fun t k => pre23 t (by
   refine X18.caload hx (j := 2) (v := (.int c2)) (hp e18 Ar24) (State.isArrayOf_alike hZ.alike Ar24.2.1) Ar24.2.2 hin24 hat24 (g := (mkF m 12 #[rv a1, iv 2, rv a2, iv 2, iv 8, iv 2, iv c1] [(.int 2), (.ref a1)])) rfl rfl (B d2_12) _ ?_
   refine XS.istore X18.here hx rfl (B d2_13) rfl (l' := #[rv a1, iv 2, rv a2, iv 2, iv 8, iv 2, iv c2]) rfl ?_
   refine XS.iload X18.here hx rfl (B d2_15) rfl ?_
   exact XS.sipush X18.here hx rfl (B d2_17) k)
  have pre26 : Go p e bl T18 (mkF m 26 #[rv a1, iv 2, rv a2, iv 2, iv 8, iv 2, iv c2] []) s1 EF := fun t k => pre25 t (XS.icmpYes X18.here hx rfl (pc0 := 20) (pc' := 26) rfl (B d2_20) rfl (flt (hle c2 (mg 2 rfl))).2.2.2 (by decide) (by decide) k)
  have pre27 : Go p e bl T18 (mkF m 31 #[rv a1, iv 2, rv a2, iv 2, iv 8, iv 2, iv c2] [(.int (c2.toInt8.toInt32)), (.int 2), (.ref a2)]) s1 EF := fun t k => pre26 t (by
   refine XS.aloadN X18.here hx rfl (B d2_26) rfl rfl ?_
   refine XS.iloadN X18.here hx rfl (B d2_27) rfl ?_
   refine XS.iload X18.here hx rfl (B d2_28) rfl ?_
   exact XS.i2b X18.here hx rfl (B d2_30) rfl k)
  obtain ⟨cl28, Ar28, q28, Sz28, M28, H28, G28⟩ := id V18
  have hin28 := inb_of (j := (2 : Int32)) Sz28 ⟨by decide, by decide⟩
  obtain ⟨T28, h28, X28, e28, W28, st28⟩ := stB X18 hx hZ e18 Ar28 (j := 2) hin28 (g := (mkF m 31 #[rv a1, iv 2, rv a2, iv 2, iv 8, iv 2, iv c2] [(.int (c2.toInt8.toInt32)), (.int 2), (.ref a2)])) rfl rfl (B d2_31)
  rw [own_i2b2] at W28
  have pre29 : Go p e bl T28 (mkF m 32 #[rv a1, iv 2, rv a2, iv 2, iv 8, iv 2, iv c2] []) s1 EF := fun t k => pre27 t (st28 t k)
  have O30 : Old Z n0 h28 := O20.wr W28 g_a2
  have Z30 : n0 ≤ h28.size := Nat.le_trans Z20 (Keep.of_wr W28).1
  have K30 : Keep h0 h28 [a2] := K20.wr W28 (Or.inl (mg 0 rfl))
  have V28 : Arv Z h28 a2 k2 .byte (8 : Int32) [(.int (c0.toInt8.toInt32)), (.int (c1.toInt8.toInt32)), (.int (c2.toInt8.toInt32)), (.int 0), (.int 0), (.int 0), (.int 0), (.int 0)] (.int 0) := Arv.set Ar28 q28 Sz28 M28 H28 G28 (fits_nar_byte _) W28 2 rfl (wl rfl)
  have N28 := Fr.snoc X28 N18 g_a2
  have pre31 : Go p e bl T28 (mkF m 7 #[rv a1, iv 3, rv a2, iv 3, iv 8, iv 3, iv c2] [(.int 8), (.int 3)]) s1 EF := fun t k => pre29 t (by
   refine XS.iinc X28.here hx rfl (B d2_32) rfl (l' := #[rv a1, iv 3, rv a2, iv 2, iv 8, iv 2, iv c2]) rfl ?_
   refine XS.iinc X28.here hx rfl (B d2_35) rfl (l' := #[rv a1, iv 3, rv a2, iv 3, iv 8, iv 2, iv c2]) rfl ?_
   refine XS.iinc X28.here hx rfl (B d2_38) rfl (l' := #[rv a1, iv 3, rv a2, iv 3, iv 8, iv 3, iv c2]) rfl ?_
   refine XS.goto X28.here hx rfl (pc0 := 41) (pc' := 3) rfl (B d2_41) (by decide) (by decide) ?_
   refine XS.iload X28.here hx rfl (B d2_3) rfl ?_
   exact XS.iload X28.here hx rfl (B d2_5) rfl k)
  have pre32 : Go p e bl T28 (mkF m 10 #[rv a1, iv 3, rv a2, iv 3, iv 8, iv 3, iv c2] []) s1 EF := fun t k => pre31 t (XS.icmpNo X28.here hx rfl (B d2_7) rfl (tlt (by decide : (3 : Int32) < (8 : Int32))).2.1 k)
  have pre33 : Go p e bl T28 (mkF m 12 #[rv a1, iv 3, rv a2, iv 3, iv 8, iv 3, iv c2] [(.int 3), (.ref a1)]) s1 EF := fun t k => pre32 t (by
   refine XS.aloadN X28.here hx rfl (B d2_10) rfl rfl ?_
   exact XS.iloadN X28.here hx rfl (B d2_11) rfl k)
  obtain ⟨cl34, Ar34, q34, Sz34, M34, H34, G34⟩ := id (((V1.other W8 ne12).other W18 ne12).other W28 ne12)
  have hin34 := inb_of (j := (3 : Int32)) Sz34 ⟨by decide, by decide⟩
  have hat34 := Has.at (v := (.int c3)) H34 hin34 rfl
  have pre35 : Go p e bl T28 (mkF m 20 #[rv a1, iv 3, rv a2, iv 3, iv 8, iv 3, iv c3] [(.int 255), (.int c3)]) s1 EF := fun t k => pre33 t (by
   refine X28.caload hx (j := 3) (v := (.int c3)) (hp e28 Ar34) (State.isArrayOf_alike hZ.alike Ar34.2.1) Ar34.2.2 hin34 hat34 (g := (mkF m 12 #[rv a1, iv 3, rv a2, iv 3, iv 8, iv 3, iv c2] [(.int 3), (.ref a1)])) rfl rfl (B d2_12) _ ?_
   refine XS.istore X28.here hx rfl (B d2_13) rfl (l' := #[rv a1, iv 3, rv a2, iv 3, iv 8, iv 3, iv c3]) rfl ?_
   refine XS.iload X28.here hx rfl (B d2_15) rfl ?_
   exact XS.sipush X28.here hx rfl (B d2_17) k)
  have pre36 : Go p e bl T28 (mkF m 26 #[rv a1, iv 3, rv a2, iv 3, iv 8, iv 3, iv c3] []) s1 EF := fun t k => pre35 t (XS.icmpYes X28.here hx rfl (pc0 := 20) (pc' := 26) rfl (B d2_20) rfl (flt (hle c3 (mg 3 rfl))).2.2.2 (by decide) (by decide) k)
  have pre37 : Go p e bl T28 (mkF m 31 #[rv a1, iv 3, rv a2, iv 3, iv 8, iv 3, iv c3] [(.int (c3.toInt8.toInt32)), (.int 3), (.ref a2)]) s1 EF := fun t k => pre36 t (by
   refine XS.aloadN X28.here hx rfl (B d2_26) rfl rfl ?_
   refine XS.iloadN X28.here hx rfl (B d2_27) rfl ?_
   refine XS.iload X28.here hx rfl (B d2_28) rfl ?_
   exact XS.i2b X28.here hx rfl (B d2_30) rfl k)
  obtain ⟨cl38, Ar38, q38, Sz38, M38, H38, G38⟩ := id V28
  have hin38 := inb_of (j := (3 : Int32)) Sz38 ⟨by decide, by decide⟩
  obtain ⟨T38, h38, X38, e38, W38, st38⟩ := stB X28 hx hZ e28 Ar38 (j := 3) hin38 (g := (mkF m 31 #[rv a1, iv 3, rv a2, iv 3, iv 8, iv 3, iv c3] [(.int (c3.toInt8.toInt32)), (.int 3), (.ref a2)])) rfl rfl (B d2_31)
  rw [own_i2b2] at W38
  have pre39 : Go p e bl T38 (mkF m 32 #[rv a1, iv 3, rv a2, iv 3, iv 8, iv 3, iv c3] []) s1 EF := fun t k => pre37 t (st38 t k)
  have O40 : Old Z n0 h38 := O30.wr W38 g_a2
  have Z40 : n0 ≤ h38.size := Nat.le_trans Z30 (Keep.of_wr W38).1
  have K40 : Keep h0 h38 [a2] := K30.wr W38 (Or.inl (mg 0 rfl))
  have V38 : Arv Z h38 a2 k2 .byte (8 : Int32) [(.int (c0.toInt8.toInt32)), (.int (c1.toInt8.toInt32)), (.int (c2.toInt8.toInt32)), (.int (c3.toInt8.toInt32)), (.int 0), (.int 0), (.int 0), (.int 0)] (.int 0) := Arv.set Ar38 q38 Sz38 M38 H38 G38 (fits_nar_byte _) W38 3 rfl (wl rfl)
  have N38 := Fr.snoc X38 N28 g_a2
  have pre41 : Go p e bl T38 (mkF m 7 #[rv a1, iv 4, rv a2, iv 4, iv 8, iv 4, iv c3] [(.int 8), (.int 4)]) s1 EF := fun t k => pre39 t (by
   refine XS.iinc X38.here hx rfl (B d2_32) rfl (l' := #[rv a1, iv 4, rv a2, iv 3, iv 8, iv 3, iv c3]) rfl ?_
   refine XS.iinc X38.here hx rfl (B d2_35) rfl (l' := #[rv a1, iv 4, rv a2, iv 4, iv 8, iv 3, iv c3]) rfl ?_
   refine XS.iinc X38.here hx rfl (B d2_38) rfl (l' := #[rv a1, iv 4, rv a2, iv 4, iv 8, iv 4, iv c3]) rfl ?_
   refine XS.goto X38.here hx rfl (pc0 := 41) (pc' := 3) rfl (B d2_41) (by decide) (by decide) ?_
   refine XS.iload X38.here hx rfl (B d2_3) rfl ?_
   exact XS.iload X38.here hx rfl (B d2_5) rfl k)
  have pre42 : Go p e bl T38 (mkF m 10 #[rv a1, iv 4, rv a2, iv 4, iv 8, iv 4, iv c3] []) s1 EF := fun t k => pre41 t (XS.icmpNo X38.here hx rfl (B d2_7) rfl (tlt (by decide : (4 : Int32) < (8 : Int32))).2.1 k)
  have pre43 : Go p e bl T38 (mkF m 12 #[rv a1, iv 4, rv a2, iv 4, iv 8, iv 4, iv c3] [(.int 4), (.ref a1)]) s1 EF := fun t k => pre42 t (by
   refine XS.aloadN X38.here hx rfl (B d2_10) rfl rfl ?_
   exact XS.iloadN X38.here hx rfl (B d2_11) rfl k)
  obtain ⟨cl44, Ar44, q44, Sz44, M44, H44, G44⟩ := id ((((V1.other W8 ne12).other W18 ne12).other W28 ne12).other W38 ne12)
  have hin44 := inb_of (j := (4 : Int32)) Sz44 ⟨by decide, by decide⟩
  have hat44 := Has.at (v := (.int c4)) H44 hin44 rfl
  have pre45 : Go p e bl T38 (mkF m 20 #[rv a1, iv 4, rv a2, iv 4, iv 8, iv 4, iv c4] [(.int 255), (.int c4)]) s1 EF := fun t k => pre43 t (by
   refine X38.caload hx (j := 4) (v := (.int c4)) (hp e38 Ar44) (State.isArrayOf_alike hZ.alike Ar44.2.1) Ar44.2.2 hin44 hat44 (g := (mkF m 12 #[rv a1, iv 4, rv a2, iv 4, iv 8, iv 4, iv c3] [(.int 4), (.ref a1)])) rfl rfl (B d2_12) _ ?_
   refine XS.istore X38.here hx rfl (B d2_13) rfl (l' := #[rv a1, iv 4, rv a2, iv 4, iv 8, iv 4, iv c4]) rfl ?_
   refine XS.iload X38.here hx rfl (B d2_15) rfl ?_
   exact XS.sipush X38.here hx rfl (B d2_17) k)
  have pre46 : Go p e bl T38 (mkF m 26 #[rv a1, iv 4, rv a2, iv 4, iv 8, iv 4, iv c4] []) s1 EF := fun t k => pre45 t (XS.icmpYes X38.here hx rfl (pc0 := 20) (pc' := 26) rfl (B d2_20) rfl (flt (hle c4 (mg 4 rfl))).2.2.2 (by decide) (by decide) k)
  have pre47 : Go p e bl T38 (mkF m 31 #[rv a1, iv 4, rv a2, iv 4, iv 8, iv 4, iv c4] [(.int (c4.toInt8.toInt32)), (.int 4), (.ref a2)]) s1 EF := fun t k => pre46 t (by
   refine XS.aloadN X38.here hx rfl (B d2_26) rfl rfl ?_
   refine XS.iloadN X38.here hx rfl (B d2_27) rfl ?_
   refine XS.iload X38.here hx rfl (B d2_28) rfl ?_
   exact XS.i2b X38.here hx rfl (B d2_30) rfl k)
  obtain ⟨cl48, Ar48, q48, Sz48, M48, H48, G48⟩ := id V38
  have hin48 := inb_of (j := (4 : Int32)) Sz48 ⟨by decide, by decide⟩
  obtain ⟨T48, h48, X48, e48, W48, st48⟩ := stB X38 hx hZ e38 Ar48 (j := 4) hin48 (g := (mkF m 31 #[rv a1, iv 4, rv a2, iv 4, iv 8, iv 4, iv c4] [(.int (c4.toInt8.toInt32)), (.int 4), (.ref a2)])) rfl rfl (B d2_31)
  rw [own_i2b2] at W48
  have pre49 : Go p e bl T48 (mkF m 32 #[rv a1, iv 4, rv a2, iv 4, iv 8, iv 4, iv c4] []) s1 EF := fun t k => pre47 t (st48 t k)
  have O50 : Old Z n0 h48 := O40.wr W48 g_a2
  have Z50 : n0 ≤ h48.size := Nat.le_trans Z40 (Keep.of_wr W48).1
  have K50 : Keep h0 h48 [a2] := K40.wr W48 (Or.inl (mg 0 rfl))
  have V48 : Arv Z h48 a2 k2 .byte (8 : Int32) [(.int (c0.toInt8.toInt32)), (.int (c1.toInt8.toInt32)), (.int (c2.toInt8.toInt32)), (.int (c3.toInt8.toInt32)), (.int (c4.toInt8.toInt32)), (.int 0), (.int 0), (.int 0)] (.int 0) := Arv.set Ar48 q48 Sz48 M48 H48 G48 (fits_nar_byte _) W48 4 rfl (wl rfl)
  have N48 := Fr.snoc X48 N38 g_a2
  have pre51 : Go p e bl T48 (mkF m 7 #[rv a1, iv 5, rv a2, iv 5, iv 8, iv 5, iv c4] [(.int 8), (.int 5)]) s1 EF := fun t k => pre49 t (by
   refine XS.iinc X48.here hx rfl (B d2_32) rfl (l' := #[rv a1, iv 5, rv a2, iv 4, iv 8, iv 4, iv c4]) rfl ?_
   refine XS.iinc X48.here hx rfl (B d2_35) rfl (l' := #[rv a1, iv 5, rv a2, iv 5, iv 8, iv 4, iv c4]) rfl ?_
   refine XS.iinc X48.here hx rfl (B d2_38) rfl (l' := #[rv a1, iv 5, rv a2, iv 5, iv 8, iv 5, iv c4]) rfl ?_
   refine XS.goto X48.here hx rfl (pc0 := 41) (pc' := 3) rfl (B d2_41) (by decide) (by decide) ?_
   refine XS.iload X48.here hx rfl (B d2_3) rfl ?_
   exact XS.iload X48.here hx rfl (B d2_5) rfl k)
  have pre52 : Go p e bl T48 (mkF m 10 #[rv a1, iv 5, rv a2, iv 5, iv 8, iv 5, iv c4] []) s1 EF := fun t k => pre51 t (XS.icmpNo X48.here hx rfl (B d2_7) rfl (tlt (by decide : (5 : Int32) < (8 : Int32))).2.1 k)
  have pre53 : Go p e bl T48 (mkF m 12 #[rv a1, iv 5, rv a2, iv 5, iv 8, iv 5, iv c4] [(.int 5), (.ref a1)]) s1 EF := fun t k => pre52 t (by
   refine XS.aloadN X48.here hx rfl (B d2_10) rfl rfl ?_
   exact XS.iloadN X48.here hx rfl (B d2_11) rfl k)
  obtain ⟨cl54, Ar54, q54, Sz54, M54, H54, G54⟩ := id (((((V1.other W8 ne12).other W18 ne12).other W28 ne12).other W38 ne12).other W48 ne12)
  have hin54 := inb_of (j := (5 : Int32)) Sz54 ⟨by decide, by decide⟩
  have hat54 := Has.at (v := (.int c5)) H54 hin54 rfl
  have pre55 : Go p e bl T48 (mkF m 20 #[rv a1, iv 5, rv a2, iv 5, iv 8, iv 5, iv c5] [(.int 255), (.int c5)]) s1 EF := fun t k => pre53 t (by
   refine X48.caload hx (j := 5) (v := (.int c5)) (hp e48 Ar54) (State.isArrayOf_alike hZ.alike Ar54.2.1) Ar54.2.2 hin54 hat54 (g := (mkF m 12 #[rv a1, iv 5, rv a2, iv 5, iv 8, iv 5, iv c4] [(.int 5), (.ref a1)])) rfl rfl (B d2_12) _ ?_
   refine XS.istore X48.here hx rfl (B d2_13) rfl (l' := #[rv a1, iv 5, rv a2, iv 5, iv 8, iv 5, iv c5]) rfl ?_
   refine XS.iload X48.here hx rfl (B d2_15) rfl ?_
   exact XS.sipush X48.here hx rfl (B d2_17) k)
  have pre56 : Go p e bl T48 (mkF m 26 #[rv a1, iv 5, rv a2, iv 5, iv 8, iv 5, iv c5] []) s1 EF := fun t k => pre55 t (XS.icmpYes X48.here hx rfl (pc0 := 20) (pc' := 26) rfl (B d2_20) rfl (flt (hle c5 (mg 5 rfl))).2.2.2 (by decide) (by decide) k)
  have pre57 : Go p e bl T48 (mkF m 31 #[rv a1, iv 5, rv a2, iv 5, iv 8, iv 5, iv c5] [(.int (c5.toInt8.toInt32)), (.int 5), (.ref a2)]) s1 EF := fun t k => pre56 t (by
   refine XS.aloadN X48.here hx rfl (B d2_26) rfl rfl ?_
   refine XS.iloadN X48.here hx rfl (B d2_27) rfl ?_
   refine XS.iload X48.here hx rfl (B d2_28) rfl ?_
   exact XS.i2b X48.here hx rfl (B d2_30) rfl k)
  obtain ⟨cl58, Ar58, q58, Sz58, M58, H58, G58⟩ := id V48
  have hin58 := inb_of (j := (5 : Int32)) Sz58 ⟨by decide, by decide⟩
  obtain ⟨T58, h58, X58, e58, W58, st58⟩ := stB X48 hx hZ e48 Ar58 (j := 5) hin58 (g := (mkF m 31 #[rv a1, iv 5, rv a2, iv 5, iv 8, iv 5, iv c5] [(.int (c5.toInt8.toInt32)), (.int 5), (.ref a2)])) rfl rfl (B d2_31)
  rw [own_i2b2] at W58
  have pre59 : Go p e bl T58 (mkF m 32 #[rv a1, iv 5, rv a2, iv 5, iv 8, iv 5, iv c5] []) s1 EF := fun t k => pre57 t (st58 t k)
  have O60 : Old Z n0 h58 := O50.wr W58 g_a2
  have Z60 : n0 ≤ h58.size := Nat.le_trans Z50 (Keep.of_wr W58).1
  have K60 : Keep h0 h58 [a2] := K50.wr W58 (Or.inl (mg 0 rfl))
  have V58 : Arv Z h58 a2 k2 .byte (8 : Int32) [(.int (c0.toInt8.toInt32)), (.int (c1.toInt8.toInt32)), (.int (c2.toInt8.toInt32)), (.int (c3.toInt8.toInt32)), (.int (c4.toInt8.toInt32)), (.int (c5.toInt8.toInt32)), (.int 0), (.int 0)] (.int 0) := Arv.set Ar58 q58 Sz58 M58 H58 G58 (fits_nar_byte _) W58 5 rfl (wl rfl)
  have N58 := Fr.snoc X58 N48 g_a2
  have pre61 : Go p e bl T58 (mkF m 7 #[rv a1, iv 6, rv a2, iv 6, iv 8, iv 6, iv c5] [(.int 8), (.int 6)]) s1 EF := fun t k => pre59 t (by
   refine XS.iinc X58.here hx rfl (B d2_32) rfl (l' := #[rv a1, iv 6, rv a2, iv 5, iv 8, iv 5, iv c5]) rfl ?_
   refine XS.iinc X58.here hx rfl (B d2_35) rfl (l' := #[rv a1, iv 6, rv a2, iv 6, iv 8, iv 5, iv c5]) rfl ?_
   refine XS.iinc X58.here hx rfl (B d2_38) rfl (l' := #[rv a1, iv 6, rv a2, iv 6, iv 8, iv 6, iv c5]) rfl ?_
   refine XS.goto X58.here hx rfl (pc0 := 41) (pc' := 3) rfl (B d2_41) (by decide) (by decide) ?_
   refine XS.iload X58.here hx rfl (B d2_3) rfl ?_
   exact XS.iload X58.here hx rfl (B d2_5) rfl k)
  have pre62 : Go p e bl T58 (mkF m 10 #[rv a1, iv 6, rv a2, iv 6, iv 8, iv 6, iv c5] []) s1 EF := fun t k => pre61 t (XS.icmpNo X58.here hx rfl (B d2_7) rfl (tlt (by decide : (6 : Int32) < (8 : Int32))).2.1 k)
  have pre63 : Go p e bl T58 (mkF m 12 #[rv a1, iv 6, rv a2, iv 6, iv 8, iv 6, iv c5] [(.int 6), (.ref a1)]) s1 EF := fun t k => pre62 t (by
   refine XS.aloadN X58.here hx rfl (B d2_10) rfl rfl ?_
   exact XS.iloadN X58.here hx rfl (B d2_11) rfl k)
  obtain ⟨cl64, Ar64, q64, Sz64, M64, H64, G64⟩ := id ((((((V1.other W8 ne12).other W18 ne12).other W28 ne12).other W38 ne12).other W48 ne12).other W58 ne12)
  have hin64 := inb_of (j := (6 : Int32)) Sz64 ⟨by decide, by decide⟩
  have hat64 := Has.at (v := (.int c6)) H64 hin64 rfl
  have pre65 : Go p e bl T58 (mkF m 20 #[rv a1, iv 6, rv a2, iv 6, iv 8, iv 6, iv c6] [(.int 255), (.int c6)]) s1 EF := fun t k => pre63 t (by
   refine X58.caload hx (j := 6) (v := (.int c6)) (hp e58 Ar64) (State.isArrayOf_alike hZ.alike Ar64.2.1) Ar64.2.2 hin64 hat64 (g := (mkF m 12 #[rv a1, iv 6, rv a2, iv 6, iv 8, iv 6, iv c5] [(.int 6), (.ref a1)])) rfl rfl (B d2_12) _ ?_
   refine XS.istore X58.here hx rfl (B d2_13) rfl (l' := #[rv a1, iv 6, rv a2, iv 6, iv 8, iv 6, iv c6]) rfl ?_
   refine XS.iload X58.here hx rfl (B d2_15) rfl ?_
   exact XS.sipush X58.here hx rfl (B d2_17) k)
  have pre66 : Go p e bl T58 (mkF m 26 #[rv a1, iv 6, rv a2, iv 6, iv 8, iv 6, iv c6] []) s1 EF := fun t k => pre65 t (XS.icmpYes X58.here hx rfl (pc0 := 20) (pc' := 26) rfl (B d2_20) rfl (flt (hle c6 (mg 6 rfl))).2.2.2 (by decide) (by decide) k)
  have pre67 : Go p e bl T58 (mkF m 31 #[rv a1, iv 6, rv a2, iv 6, iv 8, iv 6, iv c6] [(.int (c6.toInt8.toInt32)), (.int 6), (.ref a2)]) s1 EF := fun t k => pre66 t (by
   refine XS.aloadN X58.here hx rfl (B d2_26) rfl rfl ?_
   refine XS.iloadN X58.here hx rfl (B d2_27) rfl ?_
   refine XS.iload X58.here hx rfl (B d2_28) rfl ?_
   exact XS.i2b X58.here hx rfl (B d2_30) rfl k)
  obtain ⟨cl68, Ar68, q68, Sz68, M68, H68, G68⟩ := id V58
  have hin68 := inb_of (j := (6 : Int32)) Sz68 ⟨by decide, by decide⟩
  obtain ⟨T68, h68, X68, e68, W68, st68⟩ := stB X58 hx hZ e58 Ar68 (j := 6) hin68 (g := (mkF m 31 #[rv a1, iv 6, rv a2, iv 6, iv 8, iv 6, iv c6] [(.int (c6.toInt8.toInt32)), (.int 6), (.ref a2)])) rfl rfl (B d2_31)
  rw [own_i2b2] at W68
  have pre69 : Go p e bl T68 (mkF m 32 #[rv a1, iv 6, rv a2, iv 6, iv 8, iv 6, iv c6] []) s1 EF := fun t k => pre67 t (st68 t k)
  have O70 : Old Z n0 h68 := O60.wr W68 g_a2
  have Z70 : n0 ≤ h68.size := Nat.le_trans Z60 (Keep.of_wr W68).1
  have K70 : Keep h0 h68 [a2] := K60.wr W68 (Or.inl (mg 0 rfl))
  have V68 : Arv Z h68 a2 k2 .byte (8 : Int32) [(.int (c0.toInt8.toInt32)), (.int (c1.toInt8.toInt32)), (.int (c2.toInt8.toInt32)), (.int (c3.toInt8.toInt32)), (.int (c4.toInt8.toInt32)), (.int (c5.toInt8.toInt32)), (.int (c6.toInt8.toInt32)), (.int 0)] (.int 0) := Arv.set Ar68 q68 Sz68 M68 H68 G68 (fits_nar_byte _) W68 6 rfl (wl rfl)
  have N68 := Fr.snoc X68 N58 g_a2
  have pre71 : Go p e bl T68 (mkF m 7 #[rv a1, iv 7, rv a2, iv 7, iv 8, iv 7, iv c6] [(.int 8), (.int 7)]) s1 EF := fun t k => pre69 t (by
   refine XS.iinc X68.here hx rfl (B d2_32) rfl (l' := #[rv a1, iv 7, rv a2, iv 6, iv 8, iv 6, iv c6]) rfl ?_
   refine XS.iinc X68.here hx rfl (B d2_35) rfl (l' := #[rv a1, iv 7, rv a2, iv 7, iv 8, iv 6, iv c6]) rfl ?_
   refine XS.iinc X68.here hx rfl (B d2_38) rfl (l' := #[rv a1, iv 7, rv a2, iv 7, iv 8, iv 7, iv c6]) rfl ?_
   refine XS.goto X68.here hx rfl (pc0 := 41) (pc' := 3) rfl (B d2_41) (by decide) (by decide) ?_
   refine XS.iload X68.here hx rfl (B d2_3) rfl ?_
   exact XS.iload X68.here hx rfl (B d2_5) rfl k)
  have pre72 : Go p e bl T68 (mkF m 10 #[rv a1, iv 7, rv a2, iv 7, iv 8, iv 7, iv c6] []) s1 EF := fun t k => pre71 t (XS.icmpNo X68.here hx rfl (B d2_7) rfl (tlt (by decide : (7 : Int32) < (8 : Int32))).2.1 k)
  have pre73 : Go p e bl T68 (mkF m 12 #[rv a1, iv 7, rv a2, iv 7, iv 8, iv 7, iv c6] [(.int 7), (.ref a1)]) s1 EF := fun t k => pre72 t (by
   refine XS.aloadN X68.here hx rfl (B d2_10) rfl rfl ?_
   exact XS.iloadN X68.here hx rfl (B d2_11) rfl k)
  obtain ⟨cl74, Ar74, q74, Sz74, M74, H74, G74⟩ := id (((((((V1.other W8 ne12).other W18 ne12).other W28 ne12).other W38 ne12).other W48 ne12).other W58 ne12).other W68 ne12)
  have hin74 := inb_of (j := (7 : Int32)) Sz74 ⟨by decide, by decide⟩
  have hat74 := Has.at (v := (.int c7)) H74 hin74 rfl
  have pre75 : Go p e bl T68 (mkF m 20 #[rv a1, iv 7, rv a2, iv 7, iv 8, iv 7, iv c7] [(.int 255), (.int c7)]) s1 EF := fun t k => pre73 t (by
   refine X68.caload hx (j := 7) (v := (.int c7)) (hp e68 Ar74) (State.isArrayOf_alike hZ.alike Ar74.2.1) Ar74.2.2 hin74 hat74 (g := (mkF m 12 #[rv a1, iv 7, rv a2, iv 7, iv 8, iv 7, iv c6] [(.int 7), (.ref a1)])) rfl rfl (B d2_12) _ ?_
   refine XS.istore X68.here hx rfl (B d2_13) rfl (l' := #[rv a1, iv 7, rv a2, iv 7, iv 8, iv 7, iv c7]) rfl ?_
   refine XS.iload X68.here hx rfl (B d2_15) rfl ?_
   exact XS.sipush X68.here hx rfl (B d2_17) k)
  have pre76 : Go p e bl T68 (mkF m 26 #[rv a1, iv 7, rv a2, iv 7, iv 8, iv 7, iv c7] []) s1 EF := fun t k => pre75 t (XS.icmpYes X68.here hx rfl (pc0 := 20) (pc' := 26) rfl (B d2_20) rfl (flt (hle c7 (mg 7 rfl))).2.2.2 (by decide) (by decide) k)
  have pre77 : Go p e bl T68 (mkF m 31 #[rv a1, iv 7, rv a2, iv 7, iv 8, iv 7, iv c7] [(.int (c7.toInt8.toInt32)), (.int 7), (.ref a2)]) s1 EF := fun t k => pre76 t (by
   refine XS.aloadN X68.here hx rfl (B d2_26) rfl rfl ?_
   refine XS.iloadN X68.here hx rfl (B d2_27) rfl ?_
   refine XS.iload X68.here hx rfl (B d2_28) rfl ?_
   exact XS.i2b X68.here hx rfl (B d2_30) rfl k)
  obtain ⟨cl78, Ar78, q78, Sz78, M78, H78, G78⟩ := id V68
  have hin78 := inb_of (j := (7 : Int32)) Sz78 ⟨by decide, by decide⟩
  obtain ⟨T78, h78, X78, e78, W78, st78⟩ := stB X68 hx hZ e68 Ar78 (j := 7) hin78 (g := (mkF m 31 #[rv a1, iv 7, rv a2, iv 7, iv 8, iv 7, iv c7] [(.int (c7.toInt8.toInt32)), (.int 7), (.ref a2)])) rfl rfl (B d2_31)
  rw [own_i2b2] at W78
  have pre79 : Go p e bl T78 (mkF m 32 #[rv a1, iv 7, rv a2, iv 7, iv 8, iv 7, iv c7] []) s1 EF := fun t k => pre77 t (st78 t k)
  have O80 : Old Z n0 h78 := O70.wr W78 g_a2
  have Z80 : n0 ≤ h78.size := Nat.le_trans Z70 (Keep.of_wr W78).1
  have K80 : Keep h0 h78 [a2] := K70.wr W78 (Or.inl (mg 0 rfl))
  have V78 : Arv Z h78 a2 k2 .byte (8 : Int32) [(.int (c0.toInt8.toInt32)), (.int (c1.toInt8.toInt32)), (.int (c2.toInt8.toInt32)), (.int (c3.toInt8.toInt32)), (.int (c4.toInt8.toInt32)), (.int (c5.toInt8.toInt32)), (.int (c6.toInt8.toInt32)), (.int (c7.toInt8.toInt32))] (.int 0) := Arv.set Ar78 q78 Sz78 M78 H78 G78 (fits_nar_byte _) W78 7 rfl (wl rfl)
  have N78 := Fr.snoc X78 N68 g_a2
  have pre81 : Go p e bl T78 (mkF m 7 #[rv a1, iv 8, rv a2, iv 8, iv 8, iv 8, iv c7] [(.int 8), (.int 8)]) s1 EF := fun t k => pre79 t (by
   refine XS.iinc X78.here hx rfl (B d2_32) rfl (l' := #[rv a1, iv 8, rv a2, iv 7, iv 8, iv 7, iv c7]) rfl ?_
   refine XS.iinc X78.here hx rfl (B d2_35) rfl (l' := #[rv a1, iv 8, rv a2, iv 8, iv 8, iv 7, iv c7]) rfl ?_
   refine XS.iinc X78.here hx rfl (B d2_38) rfl (l' := #[rv a1, iv 8, rv a2, iv 8, iv 8, iv 8, iv c7]) rfl ?_
   refine XS.goto X78.here hx rfl (pc0 := 41) (pc' := 3) rfl (B d2_41) (by decide) (by decide) ?_
   refine XS.iload X78.here hx rfl (B d2_3) rfl ?_
   exact XS.iload X78.here hx rfl (B d2_5) rfl k)
  have pre82 : Go p e bl T78 (mkF m 44 #[rv a1, iv 8, rv a2, iv 8, iv 8, iv 8, iv c7] []) s1 EF := fun t k => pre81 t (XS.icmpYes X78.here hx rfl (pc0 := 7) (pc' := 44) rfl (B d2_7) rfl (flt (by decide : ¬ ((8 : Int32) < (8 : Int32)))).2.1 (by decide) (by decide) k)
  have pre83 : Go p e bl T78 (mkF m 46 #[rv a1, iv 8, rv a2, iv 8, iv 8, iv 8, iv c7] [(.int 8)]) s1 EF := fun t k => pre82 t (by
   exact XS.iload X78.here hx rfl (B d2_44) rfl k)
  exact fin1 X78 (v := some (.int 8)) hrt hlk (wl rfl) (wl rfl) (by rw [e78]; exact ⟨rfl, N78, K80, V78⟩) (fun fs hr => hEF ▸ pre83 _ (retOut X78 hx Bd.returns rfl (Or.inl ⟨rfl, Or.inl rfl, _, rfl⟩) (B d2_46) hr))
abbrev rKKb8 : Room := { frames := 1, cells := 1, slots := 10, locals := 18 }
theorem efKb8 (m : MethodId) (a1 : Addr) : entryFrame m #[(.ref a1), (.int 0), (.int 8)] 6 = mkF m 0 #[rv a1, iv 0, iv 8, .unset, .unset, .unset] [] := by first | (simp [entryFrame, mkF, argsToLocals, Value.category]; done) | rfl
def QKb8 (Z : State) (a1 : Addr) (cz : Int32) (fv : Value) (k1 : ClassId) (c0 : Int32) (c1 : Int32) (c2 : Int32) (c3 : Int32) (c4 : Int32) (c5 : Int32) (c6 : Int32) (c7 : Int32) (h0 : Heap) (n0 : Nat) (v : Option Value) (h : Heap) (L : List Loc) : Prop := ∃ b k, v = some (.ref b) ∧ Fr n0 L ∧ Keep h0 h [] ∧ h0.size ≤ b ∧ Arv Z h b k .byte (8 : Int32) [(.int (c0.toInt8.toInt32)), (.int (c1.toInt8.toInt32)), (.int (c2.toInt8.toInt32)), (.int (c3.toInt8.toInt32)), (.int (c4.toInt8.toInt32)), (.int (c5.toInt8.toInt32)), (.int (c6.toInt8.toInt32)), (.int (c7.toInt8.toInt32))] (.int 0)
set_option maxRecDepth 65536 in
set_option maxHeartbeats 40000000 in
theorem rmKb8 (l : Launch) (Z : State) (a0 : Array Value) (hw : HW a0 Z) (ws : List Jvm.Cond) (a1 : Addr) (cz : Int32) (fv : Value) (k1 : ClassId) (c0 : Int32) (c1 : Int32) (c2 : Int32) (c3 : Int32) (c4 : Int32) (c5 : Int32) (c6 : Int32) (c7 : Int32) (h0 : Heap) (n0 : Nat) (Z0 : n0 ≤ h0.size) (O0 : Old Z n0 h0) (J0 : Jd Z cz fv) (V1 : Arv Z h0 a1 k1 .char (8 : Int32) [(.int c0), (.int c1), (.int c2), (.int c3), (.int c4), (.int c5), (.int c6), (.int c7)] (.int 0)) (hle : (∀ c ∈ [c0, c1, c2, c3, c4, c5, c6, c7], ¬ (255 : Int32) < c)) :
    MF l Z mN3 jdk_52_method_16_code 6 (some (.array .byte)) ws rKKb8 #[(.ref a1), (.int 0), (.int 8)] h0 (QKb8 Z a1 cz fv k1 c0 c1 c2 c3 c4 c5 c6 c7 h0 n0) := by
  refine MetFree.of_bodySF (plainFor_of_name pn2) hisR ?_
  intro p e s m args bl meth c s1 Bd hml0 hP hK
  obtain ⟨rfl, hZ, hh⟩ := hP
  have hx := Bd.exec
  have hby := Bd.bytes
  have B := @hb c _ hby
  have hM := fun {n : Nat} (h : n = 6) => h.trans hml0.symm
  have hown : s.vm.findClass "java/lang/StringUTF16" = some m.cls := findClass_of_methodNamed Bd.named
  have hlk : meth.locks = false := BodyLoose.notSynchronized Bd
  have hrt : ∀ {v : Option Value}, meth.sig.returnType = none → v = none := fun h => by rw [Bd.returns] at h; cases h
  have X0 : Stand p l e rKKb8 s m #[(.ref a1), (.int 0), (.int 8)] bl meth c s1 [] 0 0 := Stand.of_body Bd
  have e0 : s1.heap = h0 := by rw [← hh, Bd.state]; rfl
  have N0 := Fr.nil n0
  obtain ⟨EF, hEF⟩ : ∃ f, f = entryFrame m #[(.ref a1), (.int 0), (.int 8)] 6 := ⟨_, rfl⟩
  have pre0 : Go p e bl s1 (mkF m 0 #[rv a1, iv 0, iv 8, .unset, .unset, .unset] []) s1 EF := fun t k => by rw [hEF]; exact castTop (efKb8 m a1) k
  have pre1 : Go p e bl s1 (mkF m 1 #[rv a1, iv 0, iv 8, .unset, .unset, .unset] [(.int 8)]) s1 EF := fun t k => pre0 t (by
   exact XS.iloadN X0.here hx rfl (B d3_0) rfl k)
  obtain ⟨T2, h2, k2, X2, e2, Et2, A2, st2⟩ := newP X0 hx hZ (hw _ (mW 23 rfl)) e0 (g := (mkF m 1 #[rv a1, iv 0, iv 8, .unset, .unset, .unset] [(.int 8)])) rfl (B d3_1) rfl (by decide) (cap := 8) (by decide) (by decide) (by decide) (by decide)
  obtain ⟨b2, g2⟩ : ∃ z, z = h0.size := ⟨_, rfl⟩
  rw [← g2] at A2 st2
  have g_b2 : n0 ≤ b2 := Nat.le_trans Z0 (Nat.le_of_eq g2.symm)
  have sz_b2 : h0.size ≤ b2 := Nat.le_trans (Keep.refl h0 []).1 (Nat.le_of_eq g2.symm)
  have ne_a1_b2 : a1 ≠ b2 := Nat.ne_of_lt (Nat.lt_of_lt_of_le V1.lt (Nat.le_of_eq g2.symm))
  have pre3 : Go p e bl T2 (mkF m 3 #[rv a1, iv 0, iv 8, .unset, .unset, .unset] [(.ref b2)]) s1 EF := fun t k => pre1 t (st2 t k)
  have O4 : Old Z n0 h2 := O0.ext Et2
  have Z4 : n0 ≤ h2.size := Nat.le_trans Z0 Et2.1
  have K4 : Keep h0 h2 [] := (Keep.refl h0 []).ext Et2
  have V2 : Arv Z h2 b2 k2 .byte (8 : Int32) [(.int 0), (.int 0), (.int 0), (.int 0), (.int 0), (.int 0), (.int 0), (.int 0)] (.int 0) := (Arv.new A2 (by decide)).pad (pad_rep [] (.int 0) 8)
  have pre5 : Go p e bl T2 (mkF m 9 #[rv a1, iv 0, iv 8, rv b2, .unset, .unset] [(.int 8), (.int 0), (.ref b2), (.int 0), (.ref a1)]) s1 EF := fun t k => pre3 t (by
   refine XS.astoreN X2.here hx rfl (B d3_3) rfl rfl (l' := #[rv a1, iv 0, iv 8, rv b2, .unset, .unset]) rfl ?_
   refine XS.aloadN X2.here hx rfl (B d3_4) rfl rfl ?_
   refine XS.iloadN X2.here hx rfl (B d3_5) rfl ?_
   refine XS.aloadN X2.here hx rfl (B d3_6) rfl rfl ?_
   refine XS.iconst X2.here hx rfl (B d3_7) ?_
   exact XS.iloadN X2.here hx rfl (B d3_8) rfl k)
  obtain ⟨_, _, ⟨T6, L6, k6, n6⟩, -, X6, ⟨Lc6, hQ6, l6, y6, z6⟩, st6⟩ := Jvm.LawKit.callS X2 hx (y := mN2) hown (mvT hZ (hw _ (mW 24 rfl))) (mvT hZ (hw _ (mW 25 rfl))) (mvT hZ (hw _ (mW 21 rfl))) (mvT hZ (hw _ (mW 26 rfl))) (by decide) (backOf (W := 0) (rmKa8 l Z a0 hw [] a1 b2 cz fv k1 k2 c0 c1 c2 c3 c4 c5 c6 c7 h2 n0 Z4 O4 J0 (V1.ext Et2) V2 ne_a1_b2 g_b2 hle) hZ (hw _ (mW 26 rfl)) (hw _ (mW 21 rfl)) (by decide) (by decide)) (g := (mkF m 9 #[rv a1, iv 0, iv 8, rv b2, .unset, .unset] [(.int 8), (.int 0), (.ref b2), (.int 0), (.ref a1)])) rfl (hM rfl) (argsL := [(.ref a1), (.int 0), (.ref b2), (.int 0), (.int 8)]) (rest := []) (lenOf pd1 rfl) rfl (Nat.le_of_eq rfl) (B d3_9) (fun _ _ => ⟨rfl, e2, wl rfl, wl rfl⟩)
  dsimp only [Pt.U, Pt.locs, Pt.cells, Pt.slots] at X6 l6 y6 z6 st6 hQ6
  subst l6 y6 z6
  obtain ⟨rfl, N6q, K6, VL6⟩ := hQ6
  have N6 := Fr.app N0 N6q
  have pre7 : Go p e bl T6 (mkF m 12 #[rv a1, iv 0, iv 8, rv b2, .unset, .unset] [(.int 8)]) s1 EF := fun t k => pre5 t (st6 t k)
  have O8 : Old Z n0 T6.heap := O4.keep K6 (allS g_b2 all0)
  have Z8 : n0 ≤ T6.heap.size := Nat.le_trans Z4 K6.1
  have K8 : Keep h0 T6.heap [] := K4.trans K6 (allS (Or.inr sz_b2) all0)
  have pre9 : Go p e bl T6 (mkF m 17 #[rv a1, iv 0, iv 8, rv b2, iv 8, .unset] [(.int 8), (.int 8)]) s1 EF := fun t k => pre7 t (by
   refine XS.istore X6.here hx rfl (B d3_12) rfl (l' := #[rv a1, iv 0, iv 8, rv b2, iv 8, .unset]) rfl ?_
   refine XS.iload X6.here hx rfl (B d3_14) rfl ?_
   exact XS.iloadN X6.here hx rfl (B d3_16) rfl k)
  have pre10 : Go p e bl T6 (mkF m 57 #[rv a1, iv 0, iv 8, rv b2, iv 8, .unset] []) s1 EF := fun t k => pre9 t (XS.icmpYes X6.here hx rfl (pc0 := 17) (pc' := 57) rfl (B d3_17) rfl (teq (by decide : (8 : Int32) = (8 : Int32))).1 (by decide) (by decide) k)
  have pre11 : Go p e bl T6 (mkF m 58 #[rv a1, iv 0, iv 8, rv b2, iv 8, .unset] [(.ref b2)]) s1 EF := fun t k => pre10 t (by
   exact XS.aloadN X6.here hx rfl (B d3_57) rfl rfl k)
  exact fin1 X6 (v := some (.ref b2)) hrt hlk (wl rfl) (wl rfl) (by exact ⟨_, _, rfl, N6, K8, sz_b2, VL6⟩) (fun fs hr => hEF ▸ pre11 _ (retOut X6 hx Bd.returns rfl (Or.inr (Or.inr (Or.inr (Or.inr ⟨rfl, rfl, rfl⟩)))) (B d3_58) hr))
abbrev rKKa7 : Room := { frames := 0, cells := 0, slots := 0, locals := 0 }
theorem efKa7 (m : MethodId) (a1 : Addr) (a2 : Addr) : entryFrame m #[(.ref a1), (.int 0), (.ref a2), (.int 0), (.int 7)] 7 = mkF m 0 #[rv a1, iv 0, rv a2, iv 0, iv 7, .unset, .unset] [] := by first | (simp [entryFrame, mkF, argsToLocals, Value.category]; done) | rfl
def QKa7 (Z : State) (a1 : Addr) (a2 : Addr) (cz : Int32) (fv : Value) (k1 : ClassId) (k2 : ClassId) (c0 : Int32) (c1 : Int32) (c2 : Int32) (c3 : Int32) (c4 : Int32) (c5 : Int32) (c6 : Int32) (h0 : Heap) (n0 : Nat) (v : Option Value) (h : Heap) (L : List Loc) : Prop := v = some (.int 7) ∧ Fr n0 L ∧ Keep h0 h [a2] ∧ Arv Z h a2 k2 .byte (7 : Int32) [(.int (c0.toInt8.toInt32)), (.int (c1.toInt8.toInt32)), (.int (c2.toInt8.toInt32)), (.int (c3.toInt8.toInt32)), (.int (c4.toInt8.toInt32)), (.int (c5.toInt8.toInt32)), (.int (c6.toInt8.toInt32))] (.int 0)
set_option maxRecDepth 65536 in
set_option maxHeartbeats 40000000 in
theorem rmKa7 (l : Launch) (Z : State) (a0 : Array Value) (hw : HW a0 Z) (ws : List Jvm.Cond) (a1 : Addr) (a2 : Addr) (cz : Int32) (fv : Value) (k1 : ClassId) (k2 : ClassId) (c0 : Int32) (c1 : Int32) (c2 : Int32) (c3 : Int32) (c4 : Int32) (c5 : Int32) (c6 : Int32) (h0 : Heap) (n0 : Nat) (Z0 : n0 ≤ h0.size) (O0 : Old Z n0 h0) (J0 : Jd Z cz fv) (V1 : Arv Z h0 a1 k1 .char (7 : Int32) [(.int c0), (.int c1), (.int c2), (.int c3), (.int c4), (.int c5), (.int c6)] (.int 0)) (V2 : Arv Z h0 a2 k2 .byte (7 : Int32) [(.int 0), (.int 0), (.int 0), (.int 0), (.int 0), (.int 0), (.int 0)] (.int 0)) (ne12 : a1 ≠ a2) (g_a2 : n0 ≤ a2) (hle : (∀ c ∈ [c0, c1, c2, c3, c4, c5, c6], ¬ (255 : Int32) < c)) :
    MF l Z mN2 jdk_52_method_21_code 7 (some .int) ws rKKa7 #[(.ref a1), (.int 0), (.ref a2), (.int 0), (.int 7)] h0 (QKa7 Z a1 a2 cz fv k1 k2 c0 c1 c2 c3 c4 c5 c6 h0 n0) := by
  refine MetFree.of_bodySF (plainFor_of_name pn2) hisR ?_
  intro p e s m args bl meth c s1 Bd hml0 hP hK
  obtain ⟨rfl, hZ, hh⟩ := hP
  have hx := Bd.exec
  have hby := Bd.bytes
  have B := @hb c _ hby
  have hown : s.vm.findClass "java/lang/StringUTF16" = some m.cls := findClass_of_methodNamed Bd.named
  have hlk : meth.locks = false := BodyLoose.notSynchronized Bd
  have hrt : ∀ {v : Option Value}, meth.sig.returnType = none → v = none := fun h => by rw [Bd.returns] at h; cases h
  have X0 : Stand p l e rKKa7 s m #[(.ref a1), (.int 0), (.ref a2), (.int 0), (.int 7)] bl meth c s1 [] 0 0 := Stand.of_body Bd
  have e0 : s1.heap = h0 := by rw [← hh, Bd.state]; rfl
  have N0 := Fr.nil n0
  obtain ⟨EF, hEF⟩ : ∃ f, f = entryFrame m #[(.ref a1), (.int 0), (.ref a2), (.int 0), (.int 7)] 7 := ⟨_, rfl⟩
  have pre0 : Go p e bl s1 (mkF m 0 #[rv a1, iv 0, rv a2, iv 0, iv 7, .unset, .unset] []) s1 EF := fun t k => by rw [hEF]; exact castTop (efKa7 m a1 a2) k
  have pre1 : Go p e bl s1 (mkF m 7 #[rv a1, iv 0, rv a2, iv 0, iv 7, iv 0, .unset] [(.int 7), (.int 0)]) s1 EF := fun t k => pre0 t (by
   refine XS.iconst X0.here hx rfl (B d2_0) ?_
   refine XS.istore X0.here hx rfl (B d2_1) rfl (l' := #[rv a1, iv 0, rv a2, iv 0, iv 7, iv 0, .unset]) rfl ?_
   refine XS.iload X0.here hx rfl (B d2_3) rfl ?_
   exact XS.iload X0.here hx rfl (B d2_5) rfl k)
  have pre2 : Go p e bl s1 (mkF m 10 #[rv a1, iv 0, rv a2, iv 0, iv 7, iv 0, .unset] []) s1 EF := fun t k => pre1 t (XS.icmpNo X0.here hx rfl (B d2_7) rfl (tlt (by decide : (0 : Int32) < (7 : Int32))).2.1 k)
  have pre3 : Go p e bl s1 (mkF m 12 #[rv a1, iv 0, rv a2, iv 0, iv 7, iv 0, .unset] [(.int 0), (.ref a1)]) s1 EF := fun t k => pre2 t (by
   refine XS.aloadN X0.here hx rfl (B d2_10) rfl rfl ?_
   exact XS.iloadN X0.here hx rfl (B d2_11) rfl k)
  obtain ⟨cl4, Ar4, q4, Sz4, M4, H4, G4⟩ := id V1
  have hin4 := inb_of (j := (0 : Int32)) Sz4 ⟨by decide, by decide⟩
  have hat4 := Has.at (v := (.int c0)) H4 hin4 rfl
  have pre5 : Go p e bl s1 (mkF m 20 #[rv a1, iv 0, rv a2, iv 0, iv 7, iv 0, iv c0] [(.int 255), (.int c0)]) s1 EF := fun t k => pre3 t (by
   refine X0.caload hx (j := 0) (v := (.int c0)) (hp e0 Ar4) (State.isArrayOf_alike hZ.alike Ar4.2.1) Ar4.2.2 hin4 hat4 (g := (mkF m 12 #[rv a1, iv 0, rv a2, iv 0, iv 7, iv 0, .unset] [(.int 0), (.ref a1)])) rfl rfl (B d2_12) _ ?_
   refine XS.istore X0.here hx rfl (B d2_13) rfl (l' := #[rv a1, iv 0, rv a2, iv 0, iv 7, iv 0, iv c0]) rfl ?_
   refine XS.iload X0.here hx rfl (B d2_15) rfl ?_
   exact XS.sipush X0.here hx rfl (B d2_17) k)
  have pre6 : Go p e bl s1 (mkF m 26 #[rv a1, iv 0, rv a2, iv 0, iv 7, iv 0, iv c0] []) s1 EF := fun t k => pre5 t (XS.icmpYes X0.here hx rfl (pc0 := 20) (pc' := 26) rfl (B d2_20) rfl (flt (hle c0 (mg 0 rfl))).2.2.2 (by decide) (by decide) k)
  have pre7 : Go p e bl s1 (mkF m 31 #[rv a1, iv 0, rv a2, iv 0, iv 7, iv 0, iv c0] [(.int (c0.toInt8.toInt32)), (.int 0), (.ref a2)]) s1 EF := fun t k => pre6 t (by
   refine XS.aloadN X0.here hx rfl (B d2_26) rfl rfl ?_
   refine XS.iloadN X0.here hx rfl (B d2_27) rfl ?_
   refine XS.iload X0.here hx rfl (B d2_28) rfl ?_
   exact XS.i2b X0.here hx rfl (B d2_30) rfl k)
  obtain ⟨cl8, Ar8, q8, Sz8, M8, H8, G8⟩ := id V2
  have hin8 := inb_of (j := (0 : Int32)) Sz8 ⟨by decide, by decide⟩
  obtain ⟨T8, h8, X8, e8, W8, st8⟩ := stB X0 hx hZ e0 Ar8 (j := 0) hin8 (g := (mkF m 31 #[rv a1, iv 0, rv a2, iv 0, iv 7, iv 0, iv c0] [(.int (c0.toInt8.toInt32)), (.int 0), (.ref a2)])) rfl rfl (B d2_31)
  rw [own_i2b2] at W8
  have pre9 : Go p e bl T8 (mkF m 32 #[rv a1, iv 0, rv a2, iv 0, iv 7, iv 0, iv c0] []) s1 EF := fun t k => pre7 t (st8 t k)
  have O10 : Old Z n0 h8 := O0.wr W8 g_a2
  have Z10 : n0 ≤ h8.size := Nat.le_trans Z0 (Keep.of_wr W8).1
  have K10 : Keep h0 h8 [a2] := (Keep.refl h0 [a2]).wr W8 (Or.inl (mg 0 rfl))
  have V8 : Arv Z h8 a2 k2 .byte (7 : Int32) [(.int (c0.toInt8.toInt32)), (.int 0), (.int 0), (.int 0), (.int 0), (.int 0), (.int 0)] (.int 0) := Arv.set Ar8 q8 Sz8 M8 H8 G8 (fits_nar_byte _) W8 0 rfl (wl rfl)
  have N8 := Fr.snoc X8 N0 g_a2
  have pre11 : Go p e bl T8 (mkF m 7 #[rv a1, iv 1, rv a2, iv 1, iv 7, iv 1, iv c0] [(.int 7), (.int 1)]) s1 EF := fun t k => pre9 t (by
   refine XS.iinc X8.here hx rfl (B d2_32) rfl (l' := #[rv a1, iv 1, rv a2, iv 0, iv 7, iv 0, iv c0]) rfl ?_
   refine XS.iinc X8.here hx rfl (B d2_35) rfl (l' := #[rv a1, iv 1, rv a2, iv 1, iv 7, iv 0, iv c0]) rfl ?_
   refine XS.iinc X8.here hx rfl (B d2_38) rfl (l' := #[rv a1, iv 1, rv a2, iv 1, iv 7, iv 1, iv c0]) rfl ?_
   refine XS.goto X8.here hx rfl (pc0 := 41) (pc' := 3) rfl (B d2_41) (by decide) (by decide) ?_
   refine XS.iload X8.here hx rfl (B d2_3) rfl ?_
   exact XS.iload X8.here hx rfl (B d2_5) rfl k)
  have pre12 : Go p e bl T8 (mkF m 10 #[rv a1, iv 1, rv a2, iv 1, iv 7, iv 1, iv c0] []) s1 EF := fun t k => pre11 t (XS.icmpNo X8.here hx rfl (B d2_7) rfl (tlt (by decide : (1 : Int32) < (7 : Int32))).2.1 k)
  have pre13 : Go p e bl T8 (mkF m 12 #[rv a1, iv 1, rv a2, iv 1, iv 7, iv 1, iv c0] [(.int 1), (.ref a1)]) s1 EF := fun t k => pre12 t (by
   refine XS.aloadN X8.here hx rfl (B d2_10) rfl rfl ?_
   exact XS.iloadN X8.here hx rfl (B d2_11) rfl k)
  obtain ⟨cl14, Ar14, q14, Sz14, M14, H14, G14⟩ := id (V1.other W8 ne12)
  have hin14 := inb_of (j := (1 : Int32)) Sz14 ⟨by decide, by decide⟩
  have hat14 := Has.at (v := (.int c1)) H14 hin14 rfl
  have pre15 : Go p e bl T8 (mkF m 20 #[rv a1, iv 1, rv a2, iv 1, iv 7, iv 1, iv c1] [(.int 255), (.int c1)]) s1 EF := fun t k => pre13 t (by
   refine X8.caload hx (j := 1) (v := (.int c1)) (hp e8 Ar14) (State.isArrayOf_alike hZ.alike Ar14.2.1) Ar14.2.2 hin14 hat14 (g := (mkF m 12 #[rv a1, iv 1, rv a2, iv 1, iv 7, iv 1, iv c0] [(.int 1), (.ref a1)])) rfl rfl (B d2_12) _ ?_
   refine XS.istore X8.here hx rfl (B d2_13) rfl (l' := #[rv a1, iv 1, rv a2, iv 1, iv 7, iv 1, iv c1]) rfl ?_
   refine XS.iload X8.here hx rfl (B d2_15) rfl ?_
   exact XS.sipush X8.here hx rfl (B d2_17) k)
  have pre16 : Go p e bl T8 (mkF m 26 #[rv a1, iv 1, rv a2, iv 1, iv 7, iv 1, iv c1] []) s1 EF := fun t k => pre15 t (XS.icmpYes X8.here hx rfl (pc0 := 20) (pc' := 26) rfl (B d2_20) rfl (flt (hle c1 (mg 1 rfl))).2.2.2 (by decide) (by decide) k)
  have pre17 : Go p e bl T8 (mkF m 31 #[rv a1, iv 1, rv a2, iv 1, iv 7, iv 1, iv c1] [(.int (c1.toInt8.toInt32)), (.int 1), (.ref a2)]) s1 EF := fun t k => pre16 t (by
   refine XS.aloadN X8.here hx rfl (B d2_26) rfl rfl ?_
   refine XS.iloadN X8.here hx rfl (B d2_27) rfl ?_
   refine XS.iload X8.here hx rfl (B d2_28) rfl ?_
   exact XS.i2b X8.here hx rfl (B d2_30) rfl k)
  obtain ⟨cl18, Ar18, q18, Sz18, M18, H18, G18⟩ := id V8
  have hin18 := inb_of (j := (1 : Int32)) Sz18 ⟨by decide, by decide⟩
  obtain ⟨T18, h18, X18, e18, W18, st18⟩ := stB X8 hx hZ e8 Ar18 (j := 1) hin18 (g := (mkF m 31 #[rv a1, iv 1, rv a2, iv 1, iv 7, iv 1, iv c1] [(.int (c1.toInt8.toInt32)), (.int 1), (.ref a2)])) rfl rfl (B d2_31)
  rw [own_i2b2] at W18
  have pre19 : Go p e bl T18 (mkF m 32 #[rv a1, iv 1, rv a2, iv 1, iv 7, iv 1, iv c1] []) s1 EF := fun t k => pre17 t (st18 t k)
  have O20 : Old Z n0 h18 := O10.wr W18 g_a2
  have Z20 : n0 ≤ h18.size := Nat.le_trans Z10 (Keep.of_wr W18).1
  have K20 : Keep h0 h18 [a2] := K10.wr W18 (Or.inl (mg 0 rfl))
  have V18 : Arv Z h18 a2 k2 .byte (7 : Int32) [(.int (c0.toInt8.toInt32)), (.int (c1.toInt8.toInt32)), (.int 0), (.int 0), (.int 0), (.int 0), (.int 0)] (.int 0) := Arv.set Ar18 q18 Sz18 M18 H18 G18 (fits_nar_byte _) W18 1 rfl (wl rfl)
  have N18 := Fr.snoc X18 N8 g_a2
  have pre21 : Go p e bl T18 (mkF m 7 #[rv a1, iv 2, rv a2, iv 2, iv 7, iv 2, iv c1] [(.int 7), (.int 2)]) s1 EF := fun t k => pre19 t (by
   refine XS.iinc X18.here hx rfl (B d2_32) rfl (l' := #[rv a1, iv 2, rv a2, iv 1, iv 7, iv 1, iv c1]) rfl ?_
   refine XS.iinc X18.here hx rfl (B d2_35) rfl (l' := #[rv a1, iv 2, rv a2, iv 2, iv 7, iv 1, iv c1]) rfl ?_
   refine XS.iinc X18.here hx rfl (B d2_38) rfl (l' := #[rv a1, iv 2, rv a2, iv 2, iv 7, iv 2, iv c1]) rfl ?_
   refine XS.goto X18.here hx rfl (pc0 := 41) (pc' := 3) rfl (B d2_41) (by decide) (by decide) ?_
   refine XS.iload X18.here hx rfl (B d2_3) rfl ?_
   exact XS.iload X18.here hx rfl (B d2_5) rfl k)
  have pre22 : Go p e bl T18 (mkF m 10 #[rv a1, iv 2, rv a2, iv 2, iv 7, iv 2, iv c1] []) s1 EF := fun t k => pre21 t (XS.icmpNo X18.here hx rfl (B d2_7) rfl (tlt (by decide : (2 : Int32) < (7 : Int32))).2.1 k)
  have pre23 : Go p e bl T18 (mkF m 12 #[rv a1, iv 2, rv a2, iv 2, iv 7, iv 2, iv c1] [(.int 2), (.ref a1)]) s1 EF := fun t k => pre22 t (by
   refine XS.aloadN X18.here hx rfl (B d2_10) rfl rfl ?_
   exact XS.iloadN X18.here hx rfl (B d2_11) rfl k)
  obtain ⟨cl24, Ar24, q24, Sz24, M24, H24, G24⟩ := id ((V1.other W8 ne12).other W18 ne12)
  have hin24 := inb_of (j := (2 : Int32)) Sz24 ⟨by decide, by decide⟩
  have hat24 := Has.at (v := (.int c2)) H24 hin24 rfl
  have pre25 : Go p e bl T18 (mkF m 20 #[rv a1, iv 2, rv a2, iv 2, iv 7, iv 2, iv c2] [(.int 255), (.int c2)]) s1 EF := fun t k => pre23 t (by
   refine X18.caload hx (j := 2) (v := (.int c2)) (hp e18 Ar24) (State.isArrayOf_alike hZ.alike Ar24.2.1) Ar24.2.2 hin24 hat24 (g := (mkF m 12 #[rv a1, iv 2, rv a2, iv 2, iv 7, iv 2, iv c1] [(.int 2), (.ref a1)])) rfl rfl (B d2_12) _ ?_
   refine XS.istore X18.here hx rfl (B d2_13) rfl (l' := #[rv a1, iv 2, rv a2, iv 2, iv 7, iv 2, iv c2]) rfl ?_
   refine XS.iload X18.here hx rfl (B d2_15) rfl ?_
   exact XS.sipush X18.here hx rfl (B d2_17) k)
  have pre26 : Go p e bl T18 (mkF m 26 #[rv a1, iv 2, rv a2, iv 2, iv 7, iv 2, iv c2] []) s1 EF := fun t k => pre25 t (XS.icmpYes X18.here hx rfl (pc0 := 20) (pc' := 26) rfl (B d2_20) rfl (flt (hle c2 (mg 2 rfl))).2.2.2 (by decide) (by decide) k)
  have pre27 : Go p e bl T18 (mkF m 31 #[rv a1, iv 2, rv a2, iv 2, iv 7, iv 2, iv c2] [(.int (c2.toInt8.toInt32)), (.int 2), (.ref a2)]) s1 EF := fun t k => pre26 t (by
   refine XS.aloadN X18.here hx rfl (B d2_26) rfl rfl ?_
   refine XS.iloadN X18.here hx rfl (B d2_27) rfl ?_
   refine XS.iload X18.here hx rfl (B d2_28) rfl ?_
   exact XS.i2b X18.here hx rfl (B d2_30) rfl k)
  obtain ⟨cl28, Ar28, q28, Sz28, M28, H28, G28⟩ := id V18
  have hin28 := inb_of (j := (2 : Int32)) Sz28 ⟨by decide, by decide⟩
  obtain ⟨T28, h28, X28, e28, W28, st28⟩ := stB X18 hx hZ e18 Ar28 (j := 2) hin28 (g := (mkF m 31 #[rv a1, iv 2, rv a2, iv 2, iv 7, iv 2, iv c2] [(.int (c2.toInt8.toInt32)), (.int 2), (.ref a2)])) rfl rfl (B d2_31)
  rw [own_i2b2] at W28
  have pre29 : Go p e bl T28 (mkF m 32 #[rv a1, iv 2, rv a2, iv 2, iv 7, iv 2, iv c2] []) s1 EF := fun t k => pre27 t (st28 t k)
  have O30 : Old Z n0 h28 := O20.wr W28 g_a2
  have Z30 : n0 ≤ h28.size := Nat.le_trans Z20 (Keep.of_wr W28).1
  have K30 : Keep h0 h28 [a2] := K20.wr W28 (Or.inl (mg 0 rfl))
  have V28 : Arv Z h28 a2 k2 .byte (7 : Int32) [(.int (c0.toInt8.toInt32)), (.int (c1.toInt8.toInt32)), (.int (c2.toInt8.toInt32)), (.int 0), (.int 0), (.int 0), (.int 0)] (.int 0) := Arv.set Ar28 q28 Sz28 M28 H28 G28 (fits_nar_byte _) W28 2 rfl (wl rfl)
  have N28 := Fr.snoc X28 N18 g_a2
  have pre31 : Go p e bl T28 (mkF m 7 #[rv a1, iv 3, rv a2, iv 3, iv 7, iv 3, iv c2] [(.int 7), (.int 3)]) s1 EF := fun t k => pre29 t (by
   refine XS.iinc X28.here hx rfl (B d2_32) rfl (l' := #[rv a1, iv 3, rv a2, iv 2, iv 7, iv 2, iv c2]) rfl ?_
   refine XS.iinc X28.here hx rfl (B d2_35) rfl (l' := #[rv a1, iv 3, rv a2, iv 3, iv 7, iv 2, iv c2]) rfl ?_
   refine XS.iinc X28.here hx rfl (B d2_38) rfl (l' := #[rv a1, iv 3, rv a2, iv 3, iv 7, iv 3, iv c2]) rfl ?_
   refine XS.goto X28.here hx rfl (pc0 := 41) (pc' := 3) rfl (B d2_41) (by decide) (by decide) ?_
   refine XS.iload X28.here hx rfl (B d2_3) rfl ?_
   exact XS.iload X28.here hx rfl (B d2_5) rfl k)
  have pre32 : Go p e bl T28 (mkF m 10 #[rv a1, iv 3, rv a2, iv 3, iv 7, iv 3, iv c2] []) s1 EF := fun t k => pre31 t (XS.icmpNo X28.here hx rfl (B d2_7) rfl (tlt (by decide : (3 : Int32) < (7 : Int32))).2.1 k)
  have pre33 : Go p e bl T28 (mkF m 12 #[rv a1, iv 3, rv a2, iv 3, iv 7, iv 3, iv c2] [(.int 3), (.ref a1)]) s1 EF := fun t k => pre32 t (by
   refine XS.aloadN X28.here hx rfl (B d2_10) rfl rfl ?_
   exact XS.iloadN X28.here hx rfl (B d2_11) rfl k)
  obtain ⟨cl34, Ar34, q34, Sz34, M34, H34, G34⟩ := id (((V1.other W8 ne12).other W18 ne12).other W28 ne12)
  have hin34 := inb_of (j := (3 : Int32)) Sz34 ⟨by decide, by decide⟩
  have hat34 := Has.at (v := (.int c3)) H34 hin34 rfl
  have pre35 : Go p e bl T28 (mkF m 20 #[rv a1, iv 3, rv a2, iv 3, iv 7, iv 3, iv c3] [(.int 255), (.int c3)]) s1 EF := fun t k => pre33 t (by
   refine X28.caload hx (j := 3) (v := (.int c3)) (hp e28 Ar34) (State.isArrayOf_alike hZ.alike Ar34.2.1) Ar34.2.2 hin34 hat34 (g := (mkF m 12 #[rv a1, iv 3, rv a2, iv 3, iv 7, iv 3, iv c2] [(.int 3), (.ref a1)])) rfl rfl (B d2_12) _ ?_
   refine XS.istore X28.here hx rfl (B d2_13) rfl (l' := #[rv a1, iv 3, rv a2, iv 3, iv 7, iv 3, iv c3]) rfl ?_
   refine XS.iload X28.here hx rfl (B d2_15) rfl ?_
   exact XS.sipush X28.here hx rfl (B d2_17) k)
  have pre36 : Go p e bl T28 (mkF m 26 #[rv a1, iv 3, rv a2, iv 3, iv 7, iv 3, iv c3] []) s1 EF := fun t k => pre35 t (XS.icmpYes X28.here hx rfl (pc0 := 20) (pc' := 26) rfl (B d2_20) rfl (flt (hle c3 (mg 3 rfl))).2.2.2 (by decide) (by decide) k)
  have pre37 : Go p e bl T28 (mkF m 31 #[rv a1, iv 3, rv a2, iv 3, iv 7, iv 3, iv c3] [(.int (c3.toInt8.toInt32)), (.int 3), (.ref a2)]) s1 EF := fun t k => pre36 t (by
   refine XS.aloadN X28.here hx rfl (B d2_26) rfl rfl ?_
   refine XS.iloadN X28.here hx rfl (B d2_27) rfl ?_
   refine XS.iload X28.here hx rfl (B d2_28) rfl ?_
   exact XS.i2b X28.here hx rfl (B d2_30) rfl k)
  obtain ⟨cl38, Ar38, q38, Sz38, M38, H38, G38⟩ := id V28
  have hin38 := inb_of (j := (3 : Int32)) Sz38 ⟨by decide, by decide⟩
  obtain ⟨T38, h38, X38, e38, W38, st38⟩ := stB X28 hx hZ e28 Ar38 (j := 3) hin38 (g := (mkF m 31 #[rv a1, iv 3, rv a2, iv 3, iv 7, iv 3, iv c3] [(.int (c3.toInt8.toInt32)), (.int 3), (.ref a2)])) rfl rfl (B d2_31)
  rw [own_i2b2] at W38
  have pre39 : Go p e bl T38 (mkF m 32 #[rv a1, iv 3, rv a2, iv 3, iv 7, iv 3, iv c3] []) s1 EF := fun t k => pre37 t (st38 t k)
  have O40 : Old Z n0 h38 := O30.wr W38 g_a2
  have Z40 : n0 ≤ h38.size := Nat.le_trans Z30 (Keep.of_wr W38).1
  have K40 : Keep h0 h38 [a2] := K30.wr W38 (Or.inl (mg 0 rfl))
  have V38 : Arv Z h38 a2 k2 .byte (7 : Int32) [(.int (c0.toInt8.toInt32)), (.int (c1.toInt8.toInt32)), (.int (c2.toInt8.toInt32)), (.int (c3.toInt8.toInt32)), (.int 0), (.int 0), (.int 0)] (.int 0) := Arv.set Ar38 q38 Sz38 M38 H38 G38 (fits_nar_byte _) W38 3 rfl (wl rfl)
  have N38 := Fr.snoc X38 N28 g_a2
  have pre41 : Go p e bl T38 (mkF m 7 #[rv a1, iv 4, rv a2, iv 4, iv 7, iv 4, iv c3] [(.int 7), (.int 4)]) s1 EF := fun t k => pre39 t (by
   refine XS.iinc X38.here hx rfl (B d2_32) rfl (l' := #[rv a1, iv 4, rv a2, iv 3, iv 7, iv 3, iv c3]) rfl ?_
   refine XS.iinc X38.here hx rfl (B d2_35) rfl (l' := #[rv a1, iv 4, rv a2, iv 4, iv 7, iv 3, iv c3]) rfl ?_
   refine XS.iinc X38.here hx rfl (B d2_38) rfl (l' := #[rv a1, iv 4, rv a2, iv 4, iv 7, iv 4, iv c3]) rfl ?_
   refine XS.goto X38.here hx rfl (pc0 := 41) (pc' := 3) rfl (B d2_41) (by decide) (by decide) ?_
   refine XS.iload X38.here hx rfl (B d2_3) rfl ?_
   exact XS.iload X38.here hx rfl (B d2_5) rfl k)
  have pre42 : Go p e bl T38 (mkF m 10 #[rv a1, iv 4, rv a2, iv 4, iv 7, iv 4, iv c3] []) s1 EF := fun t k => pre41 t (XS.icmpNo X38.here hx rfl (B d2_7) rfl (tlt (by decide : (4 : Int32) < (7 : Int32))).2.1 k)
  have pre43 : Go p e bl T38 (mkF m 12 #[rv a1, iv 4, rv a2, iv 4, iv 7, iv 4, iv c3] [(.int 4), (.ref a1)]) s1 EF := fun t k => pre42 t (by
   refine XS.aloadN X38.here hx rfl (B d2_10) rfl rfl ?_
   exact XS.iloadN X38.here hx rfl (B d2_11) rfl k)
  obtain ⟨cl44, Ar44, q44, Sz44, M44, H44, G44⟩ := id ((((V1.other W8 ne12).other W18 ne12).other W28 ne12).other W38 ne12)
  have hin44 := inb_of (j := (4 : Int32)) Sz44 ⟨by decide, by decide⟩
  have hat44 := Has.at (v := (.int c4)) H44 hin44 rfl
  have pre45 : Go p e bl T38 (mkF m 20 #[rv a1, iv 4, rv a2, iv 4, iv 7, iv 4, iv c4] [(.int 255), (.int c4)]) s1 EF := fun t k => pre43 t (by
   refine X38.caload hx (j := 4) (v := (.int c4)) (hp e38 Ar44) (State.isArrayOf_alike hZ.alike Ar44.2.1) Ar44.2.2 hin44 hat44 (g := (mkF m 12 #[rv a1, iv 4, rv a2, iv 4, iv 7, iv 4, iv c3] [(.int 4), (.ref a1)])) rfl rfl (B d2_12) _ ?_
   refine XS.istore X38.here hx rfl (B d2_13) rfl (l' := #[rv a1, iv 4, rv a2, iv 4, iv 7, iv 4, iv c4]) rfl ?_
   refine XS.iload X38.here hx rfl (B d2_15) rfl ?_
   exact XS.sipush X38.here hx rfl (B d2_17) k)
  have pre46 : Go p e bl T38 (mkF m 26 #[rv a1, iv 4, rv a2, iv 4, iv 7, iv 4, iv c4] []) s1 EF := fun t k => pre45 t (XS.icmpYes X38.here hx rfl (pc0 := 20) (pc' := 26) rfl (B d2_20) rfl (flt (hle c4 (mg 4 rfl))).2.2.2 (by decide) (by decide) k)
  have pre47 : Go p e bl T38 (mkF m 31 #[rv a1, iv 4, rv a2, iv 4, iv 7, iv 4, iv c4] [(.int (c4.toInt8.toInt32)), (.int 4), (.ref a2)]) s1 EF := fun t k => pre46 t (by
   refine XS.aloadN X38.here hx rfl (B d2_26) rfl rfl ?_
   refine XS.iloadN X38.here hx rfl (B d2_27) rfl ?_
   refine XS.iload X38.here hx rfl (B d2_28) rfl ?_
   exact XS.i2b X38.here hx rfl (B d2_30) rfl k)
  obtain ⟨cl48, Ar48, q48, Sz48, M48, H48, G48⟩ := id V38
  have hin48 := inb_of (j := (4 : Int32)) Sz48 ⟨by decide, by decide⟩
  obtain ⟨T48, h48, X48, e48, W48, st48⟩ := stB X38 hx hZ e38 Ar48 (j := 4) hin48 (g := (mkF m 31 #[rv a1, iv 4, rv a2, iv 4, iv 7, iv 4, iv c4] [(.int (c4.toInt8.toInt32)), (.int 4), (.ref a2)])) rfl rfl (B d2_31)
  rw [own_i2b2] at W48
  have pre49 : Go p e bl T48 (mkF m 32 #[rv a1, iv 4, rv a2, iv 4, iv 7, iv 4, iv c4] []) s1 EF := fun t k => pre47 t (st48 t k)
  have O50 : Old Z n0 h48 := O40.wr W48 g_a2
  have Z50 : n0 ≤ h48.size := Nat.le_trans Z40 (Keep.of_wr W48).1
  have K50 : Keep h0 h48 [a2] := K40.wr W48 (Or.inl (mg 0 rfl))
  have V48 : Arv Z h48 a2 k2 .byte (7 : Int32) [(.int (c0.toInt8.toInt32)), (.int (c1.toInt8.toInt32)), (.int (c2.toInt8.toInt32)), (.int (c3.toInt8.toInt32)), (.int (c4.toInt8.toInt32)), (.int 0), (.int 0)] (.int 0) := Arv.set Ar48 q48 Sz48 M48 H48 G48 (fits_nar_byte _) W48 4 rfl (wl rfl)
  have N48 := Fr.snoc X48 N38 g_a2
  have pre51 : Go p e bl T48 (mkF m 7 #[rv a1, iv 5, rv a2, iv 5, iv 7, iv 5, iv c4] [(.int 7), (.int 5)]) s1 EF := fun t k => pre49 t (by
   refine XS.iinc X48.here hx rfl (B d2_32) rfl (l' := #[rv a1, iv 5, rv a2, iv 4, iv 7, iv 4, iv c4]) rfl ?_
   refine XS.iinc X48.here hx rfl (B d2_35) rfl (l' := #[rv a1, iv 5, rv a2, iv 5, iv 7, iv 4, iv c4]) rfl ?_
   refine XS.iinc X48.here hx rfl (B d2_38) rfl (l' := #[rv a1, iv 5, rv a2, iv 5, iv 7, iv 5, iv c4]) rfl ?_
   refine XS.goto X48.here hx rfl (pc0 := 41) (pc' := 3) rfl (B d2_41) (by decide) (by decide) ?_
   refine XS.iload X48.here hx rfl (B d2_3) rfl ?_
   exact XS.iload X48.here hx rfl (B d2_5) rfl k)
  have pre52 : Go p e bl T48 (mkF m 10 #[rv a1, iv 5, rv a2, iv 5, iv 7, iv 5, iv c4] []) s1 EF := fun t k => pre51 t (XS.icmpNo X48.here hx rfl (B d2_7) rfl (tlt (by decide : (5 : Int32) < (7 : Int32))).2.1 k)
  have pre53 : Go p e bl T48 (mkF m 12 #[rv a1, iv 5, rv a2, iv 5, iv 7, iv 5, iv c4] [(.int 5), (.ref a1)]) s1 EF := fun t k => pre52 t (by
   refine XS.aloadN X48.here hx rfl (B d2_10) rfl rfl ?_
   exact XS.iloadN X48.here hx rfl (B d2_11) rfl k)
  obtain ⟨cl54, Ar54, q54, Sz54, M54, H54, G54⟩ := id (((((V1.other W8 ne12).other W18 ne12).other W28 ne12).other W38 ne12).other W48 ne12)
  have hin54 := inb_of (j := (5 : Int32)) Sz54 ⟨by decide, by decide⟩
  have hat54 := Has.at (v := (.int c5)) H54 hin54 rfl
  have pre55 : Go p e bl T48 (mkF m 20 #[rv a1, iv 5, rv a2, iv 5, iv 7, iv 5, iv c5] [(.int 255), (.int c5)]) s1 EF := fun t k => pre53 t (by
   refine X48.caload hx (j := 5) (v := (.int c5)) (hp e48 Ar54) (State.isArrayOf_alike hZ.alike Ar54.2.1) Ar54.2.2 hin54 hat54 (g := (mkF m 12 #[rv a1, iv 5, rv a2, iv 5, iv 7, iv 5, iv c4] [(.int 5), (.ref a1)])) rfl rfl (B d2_12) _ ?_
   refine XS.istore X48.here hx rfl (B d2_13) rfl (l' := #[rv a1, iv 5, rv a2, iv 5, iv 7, iv 5, iv c5]) rfl ?_
   refine XS.iload X48.here hx rfl (B d2_15) rfl ?_
   exact XS.sipush X48.here hx rfl (B d2_17) k)
  have pre56 : Go p e bl T48 (mkF m 26 #[rv a1, iv 5, rv a2, iv 5, iv 7, iv 5, iv c5] []) s1 EF := fun t k => pre55 t (XS.icmpYes X48.here hx rfl (pc0 := 20) (pc' := 26) rfl (B d2_20) rfl (flt (hle c5 (mg 5 rfl))).2.2.2 (by decide) (by decide) k)
  have pre57 : Go p e bl T48 (mkF m 31 #[rv a1, iv 5, rv a2, iv 5, iv 7, iv 5, iv c5] [(.int (c5.toInt8.toInt32)), (.int 5), (.ref a2)]) s1 EF := fun t k => pre56 t (by
   refine XS.aloadN X48.here hx rfl (B d2_26) rfl rfl ?_
   refine XS.iloadN X48.here hx rfl (B d2_27) rfl ?_
   refine XS.iload X48.here hx rfl (B d2_28) rfl ?_
   exact XS.i2b X48.here hx rfl (B d2_30) rfl k)
  obtain ⟨cl58, Ar58, q58, Sz58, M58, H58, G58⟩ := id V48
  have hin58 := inb_of (j := (5 : Int32)) Sz58 ⟨by decide, by decide⟩
  obtain ⟨T58, h58, X58, e58, W58, st58⟩ := stB X48 hx hZ e48 Ar58 (j := 5) hin58 (g := (mkF m 31 #[rv a1, iv 5, rv a2, iv 5, iv 7, iv 5, iv c5] [(.int (c5.toInt8.toInt32)), (.int 5), (.ref a2)])) rfl rfl (B d2_31)
  rw [own_i2b2] at W58
  have pre59 : Go p e bl T58 (mkF m 32 #[rv a1, iv 5, rv a2, iv 5, iv 7, iv 5, iv c5] []) s1 EF := fun t k => pre57 t (st58 t k)
  have O60 : Old Z n0 h58 := O50.wr W58 g_a2
  have Z60 : n0 ≤ h58.size := Nat.le_trans Z50 (Keep.of_wr W58).1
  have K60 : Keep h0 h58 [a2] := K50.wr W58 (Or.inl (mg 0 rfl))
  have V58 : Arv Z h58 a2 k2 .byte (7 : Int32) [(.int (c0.toInt8.toInt32)), (.int (c1.toInt8.toInt32)), (.int (c2.toInt8.toInt32)), (.int (c3.toInt8.toInt32)), (.int (c4.toInt8.toInt32)), (.int (c5.toInt8.toInt32)), (.int 0)] (.int 0) := Arv.set Ar58 q58 Sz58 M58 H58 G58 (fits_nar_byte _) W58 5 rfl (wl rfl)
  have N58 := Fr.snoc X58 N48 g_a2
  have pre61 : Go p e bl T58 (mkF m 7 #[rv a1, iv 6, rv a2, iv 6, iv 7, iv 6, iv c5] [(.int 7), (.int 6)]) s1 EF := fun t k => pre59 t (by
   refine XS.iinc X58.here hx rfl (B d2_32) rfl (l' := #[rv a1, iv 6, rv a2, iv 5, iv 7, iv 5, iv c5]) rfl ?_
   refine XS.iinc X58.here hx rfl (B d2_35) rfl (l' := #[rv a1, iv 6, rv a2, iv 6, iv 7, iv 5, iv c5]) rfl ?_
   refine XS.iinc X58.here hx rfl (B d2_38) rfl (l' := #[rv a1, iv 6, rv a2, iv 6, iv 7, iv 6, iv c5]) rfl ?_
   refine XS.goto X58.here hx rfl (pc0 := 41) (pc' := 3) rfl (B d2_41) (by decide) (by decide) ?_
   refine XS.iload X58.here hx rfl (B d2_3) rfl ?_
   exact XS.iload X58.here hx rfl (B d2_5) rfl k)
  have pre62 : Go p e bl T58 (mkF m 10 #[rv a1, iv 6, rv a2, iv 6, iv 7, iv 6, iv c5] []) s1 EF := fun t k => pre61 t (XS.icmpNo X58.here hx rfl (B d2_7) rfl (tlt (by decide : (6 : Int32) < (7 : Int32))).2.1 k)
  have pre63 : Go p e bl T58 (mkF m 12 #[rv a1, iv 6, rv a2, iv 6, iv 7, iv 6, iv c5] [(.int 6), (.ref a1)]) s1 EF := fun t k => pre62 t (by
   refine XS.aloadN X58.here hx rfl (B d2_10) rfl rfl ?_
   exact XS.iloadN X58.here hx rfl (B d2_11) rfl k)
  obtain ⟨cl64, Ar64, q64, Sz64, M64, H64, G64⟩ := id ((((((V1.other W8 ne12).other W18 ne12).other W28 ne12).other W38 ne12).other W48 ne12).other W58 ne12)
  have hin64 := inb_of (j := (6 : Int32)) Sz64 ⟨by decide, by decide⟩
  have hat64 := Has.at (v := (.int c6)) H64 hin64 rfl
  have pre65 : Go p e bl T58 (mkF m 20 #[rv a1, iv 6, rv a2, iv 6, iv 7, iv 6, iv c6] [(.int 255), (.int c6)]) s1 EF := fun t k => pre63 t (by
   refine X58.caload hx (j := 6) (v := (.int c6)) (hp e58 Ar64) (State.isArrayOf_alike hZ.alike Ar64.2.1) Ar64.2.2 hin64 hat64 (g := (mkF m 12 #[rv a1, iv 6, rv a2, iv 6, iv 7, iv 6, iv c5] [(.int 6), (.ref a1)])) rfl rfl (B d2_12) _ ?_
   refine XS.istore X58.here hx rfl (B d2_13) rfl (l' := #[rv a1, iv 6, rv a2, iv 6, iv 7, iv 6, iv c6]) rfl ?_
   refine XS.iload X58.here hx rfl (B d2_15) rfl ?_
   exact XS.sipush X58.here hx rfl (B d2_17) k)
  have pre66 : Go p e bl T58 (mkF m 26 #[rv a1, iv 6, rv a2, iv 6, iv 7, iv 6, iv c6] []) s1 EF := fun t k => pre65 t (XS.icmpYes X58.here hx rfl (pc0 := 20) (pc' := 26) rfl (B d2_20) rfl (flt (hle c6 (mg 6 rfl))).2.2.2 (by decide) (by decide) k)
  have pre67 : Go p e bl T58 (mkF m 31 #[rv a1, iv 6, rv a2, iv 6, iv 7, iv 6, iv c6] [(.int (c6.toInt8.toInt32)), (.int 6), (.ref a2)]) s1 EF := fun t k => pre66 t (by
   refine XS.aloadN X58.here hx rfl (B d2_26) rfl rfl ?_
   refine XS.iloadN X58.here hx rfl (B d2_27) rfl ?_
   refine XS.iload X58.here hx rfl (B d2_28) rfl ?_
   exact XS.i2b X58.here hx rfl (B d2_30) rfl k)
  obtain ⟨cl68, Ar68, q68, Sz68, M68, H68, G68⟩ := id V58
  have hin68 := inb_of (j := (6 : Int32)) Sz68 ⟨by decide, by decide⟩
  obtain ⟨T68, h68, X68, e68, W68, st68⟩ := stB X58 hx hZ e58 Ar68 (j := 6) hin68 (g := (mkF m 31 #[rv a1, iv 6, rv a2, iv 6, iv 7, iv 6, iv c6] [(.int (c6.toInt8.toInt32)), (.int 6), (.ref a2)])) rfl rfl (B d2_31)
  rw [own_i2b2] at W68
  have pre69 : Go p e bl T68 (mkF m 32 #[rv a1, iv 6, rv a2, iv 6, iv 7, iv 6, iv c6] []) s1 EF := fun t k => pre67 t (st68 t k)
  have O70 : Old Z n0 h68 := O60.wr W68 g_a2
  have Z70 : n0 ≤ h68.size := Nat.le_trans Z60 (Keep.of_wr W68).1
  have K70 : Keep h0 h68 [a2] := K60.wr W68 (Or.inl (mg 0 rfl))
  have V68 : Arv Z h68 a2 k2 .byte (7 : Int32) [(.int (c0.toInt8.toInt32)), (.int (c1.toInt8.toInt32)), (.int (c2.toInt8.toInt32)), (.int (c3.toInt8.toInt32)), (.int (c4.toInt8.toInt32)), (.int (c5.toInt8.toInt32)), (.int (c6.toInt8.toInt32))] (.int 0) := Arv.set Ar68 q68 Sz68 M68 H68 G68 (fits_nar_byte _) W68 6 rfl (wl rfl)
  have N68 := Fr.snoc X68 N58 g_a2
  have pre71 : Go p e bl T68 (mkF m 7 #[rv a1, iv 7, rv a2, iv 7, iv 7, iv 7, iv c6] [(.int 7), (.int 7)]) s1 EF := fun t k => pre69 t (by
   refine XS.iinc X68.here hx rfl (B d2_32) rfl (l' := #[rv a1, iv 7, rv a2, iv 6, iv 7, iv 6, iv c6]) rfl ?_
   refine XS.iinc X68.here hx rfl (B d2_35) rfl (l' := #[rv a1, iv 7, rv a2, iv 7, iv 7, iv 6, iv c6]) rfl ?_
   refine XS.iinc X68.here hx rfl (B d2_38) rfl (l' := #[rv a1, iv 7, rv a2, iv 7, iv 7, iv 7, iv c6]) rfl ?_
   refine XS.goto X68.here hx rfl (pc0 := 41) (pc' := 3) rfl (B d2_41) (by decide) (by decide) ?_
   refine XS.iload X68.here hx rfl (B d2_3) rfl ?_
   exact XS.iload X68.here hx rfl (B d2_5) rfl k)
  have pre72 : Go p e bl T68 (mkF m 44 #[rv a1, iv 7, rv a2, iv 7, iv 7, iv 7, iv c6] []) s1 EF := fun t k => pre71 t (XS.icmpYes X68.here hx rfl (pc0 := 7) (pc' := 44) rfl (B d2_7) rfl (flt (by decide : ¬ ((7 : Int32) < (7 : Int32)))).2.1 (by decide) (by decide) k)
  have pre73 : Go p e bl T68 (mkF m 46 #[rv a1, iv 7, rv a2, iv 7, iv 7, iv 7, iv c6] [(.int 7)]) s1 EF := fun t k => pre72 t (by
   exact XS.iload X68.here hx rfl (B d2_44) rfl k)
  exact fin1 X68 (v := some (.int 7)) hrt hlk (wl rfl) (wl rfl) (by rw [e68]; exact ⟨rfl, N68, K70, V68⟩) (fun fs hr => hEF ▸ pre73 _ (retOut X68 hx Bd.returns rfl (Or.inl ⟨rfl, Or.inl rfl, _, rfl⟩) (B d2_46) hr))
abbrev rKKb7 : Room := { frames := 1, cells := 1, slots := 10, locals := 18 }
theorem efKb7 (m : MethodId) (a1 : Addr) : entryFrame m #[(.ref a1), (.int 0), (.int 7)] 6 = mkF m 0 #[rv a1, iv 0, iv 7, .unset, .unset, .unset] [] := by first | (simp [entryFrame, mkF, argsToLocals, Value.category]; done) | rfl
def QKb7 (Z : State) (a1 : Addr) (cz : Int32) (fv : Value) (k1 : ClassId) (c0 : Int32) (c1 : Int32) (c2 : Int32) (c3 : Int32) (c4 : Int32) (c5 : Int32) (c6 : Int32) (h0 : Heap) (n0 : Nat) (v : Option Value) (h : Heap) (L : List Loc) : Prop := ∃ b k, v = some (.ref b) ∧ Fr n0 L ∧ Keep h0 h [] ∧ h0.size ≤ b ∧ Arv Z h b k .byte (7 : Int32) [(.int (c0.toInt8.toInt32)), (.int (c1.toInt8.toInt32)), (.int (c2.toInt8.toInt32)), (.int (c3.toInt8.toInt32)), (.int (c4.toInt8.toInt32)), (.int (c5.toInt8.toInt32)), (.int (c6.toInt8.toInt32))] (.int 0)
set_option maxRecDepth 65536 in
set_option maxHeartbeats 40000000 in
theorem rmKb7 (l : Launch) (Z : State) (a0 : Array Value) (hw : HW a0 Z) (ws : List Jvm.Cond) (a1 : Addr) (cz : Int32) (fv : Value) (k1 : ClassId) (c0 : Int32) (c1 : Int32) (c2 : Int32) (c3 : Int32) (c4 : Int32) (c5 : Int32) (c6 : Int32) (h0 : Heap) (n0 : Nat) (Z0 : n0 ≤ h0.size) (O0 : Old Z n0 h0) (J0 : Jd Z cz fv) (V1 : Arv Z h0 a1 k1 .char (7 : Int32) [(.int c0), (.int c1), (.int c2), (.int c3), (.int c4), (.int c5), (.int c6)] (.int 0)) (hle : (∀ c ∈ [c0, c1, c2, c3, c4, c5, c6], ¬ (255 : Int32) < c)) :
    MF l Z mN3 jdk_52_method_16_code 6 (some (.array .byte)) ws rKKb7 #[(.ref a1), (.int 0), (.int 7)] h0 (QKb7 Z a1 cz fv k1 c0 c1 c2 c3 c4 c5 c6 h0 n0) := by
  refine MetFree.of_bodySF (plainFor_of_name pn2) hisR ?_
  intro p e s m args bl meth c s1 Bd hml0 hP hK
  obtain ⟨rfl, hZ, hh⟩ := hP
  have hx := Bd.exec
  have hby := Bd.bytes
  have B := @hb c _ hby
  have hM := fun {n : Nat} (h : n = 6) => h.trans hml0.symm
  have hown : s.vm.findClass "java/lang/StringUTF16" = some m.cls := findClass_of_methodNamed Bd.named
  have hlk : meth.locks = false := BodyLoose.notSynchronized Bd
  have hrt : ∀ {v : Option Value}, meth.sig.returnType = none → v = none := fun h => by rw [Bd.returns] at h; cases h
  have X0 : Stand p l e rKKb7 s m #[(.ref a1), (.int 0), (.int 7)] bl meth c s1 [] 0 0 := Stand.of_body Bd
  have e0 : s1.heap = h0 := by rw [← hh, Bd.state]; rfl
  have N0 := Fr.nil n0
  obtain ⟨EF, hEF⟩ : ∃ f, f = entryFrame m #[(.ref a1), (.int 0), (.int 7)] 6 := ⟨_, rfl⟩
  have pre0 : Go p e bl s1 (mkF m 0 #[rv a1, iv 0, iv 7, .unset, .unset, .unset] []) s1 EF := fun t k => by rw [hEF]; exact castTop (efKb7 m a1) k
  have pre1 : Go p e bl s1 (mkF m 1 #[rv a1, iv 0, iv 7, .unset, .unset, .unset] [(.int 7)]) s1 EF := fun t k => pre0 t (by
   exact XS.iloadN X0.here hx rfl (B d3_0) rfl k)
  obtain ⟨T2, h2, k2, X2, e2, Et2, A2, st2⟩ := newP X0 hx hZ (hw _ (mW 23 rfl)) e0 (g := (mkF m 1 #[rv a1, iv 0, iv 7, .unset, .unset, .unset] [(.int 7)])) rfl (B d3_1) rfl (by decide) (cap := 7) (by decide) (by decide) (by decide) (by decide)
  obtain ⟨b2, g2⟩ : ∃ z, z = h0.size := ⟨_, rfl⟩
  rw [← g2] at A2 st2
  have g_b2 : n0 ≤ b2 := Nat.le_trans Z0 (Nat.le_of_eq g2.symm)
  have sz_b2 : h0.size ≤ b2 := Nat.le_trans (Keep.refl h0 []).1 (Nat.le_of_eq g2.symm)
  have ne_a1_b2 : a1 ≠ b2 := Nat.ne_of_lt (Nat.lt_of_lt_of_le V1.lt (Nat.le_of_eq g2.symm))
  have pre3 : Go p e bl T2 (mkF m 3 #[rv a1, iv 0, iv 7, .unset, .unset, .unset] [(.ref b2)]) s1 EF := fun t k => pre1 t (st2 t k)
  have O4 : Old Z n0 h2 := O0.ext Et2
  have Z4 : n0 ≤ h2.size := Nat.le_trans Z0 Et2.1
  have K4 : Keep h0 h2 [] := (Keep.refl h0 []).ext Et2
  have V2 : Arv Z h2 b2 k2 .byte (7 : Int32) [(.int 0), (.int 0), (.int 0), (.int 0), (.int 0), (.int 0), (.int 0)] (.int 0) := (Arv.new A2 (by decide)).pad (pad_rep [] (.int 0) 7)
  have pre5 : Go p e bl T2 (mkF m 9 #[rv a1, iv 0, iv 7, rv b2, .unset, .unset] [(.int 7), (.int 0), (.ref b2), (.int 0), (.ref a1)]) s1 EF := fun t k => pre3 t (by
   refine XS.astoreN X2.here hx rfl (B d3_3) rfl rfl (l' := #[rv a1, iv 0, iv 7, rv b2, .unset, .unset]) rfl ?_
   refine XS.aloadN X2.here hx rfl (B d3_4) rfl rfl ?_
   refine XS.iloadN X2.here hx rfl (B d3_5) rfl ?_
   refine XS.aloadN X2.here hx rfl (B d3_6) rfl rfl ?_
   refine XS.iconst X2.here hx rfl (B d3_7) ?_
   exact XS.iloadN X2.here hx rfl (B d3_8) rfl k)
  obtain ⟨_, _, ⟨T6, L6, k6, n6⟩, -, X6, ⟨Lc6, hQ6, l6, y6, z6⟩, st6⟩ := Jvm.LawKit.callS X2 hx (y := mN2) hown (mvT hZ (hw _ (mW 24 rfl))) (mvT hZ (hw _ (mW 25 rfl))) (mvT hZ (hw _ (mW 21 rfl))) (mvT hZ (hw _ (mW 26 rfl))) (by decide) (backOf (W := 0) (rmKa7 l Z a0 hw [] a1 b2 cz fv k1 k2 c0 c1 c2 c3 c4 c5 c6 h2 n0 Z4 O4 J0 (V1.ext Et2) V2 ne_a1_b2 g_b2 hle) hZ (hw _ (mW 26 rfl)) (hw _ (mW 21 rfl)) (by decide) (by decide)) (g := (mkF m 9 #[rv a1, iv 0, iv 7, rv b2, .unset, .unset] [(.int 7), (.int 0), (.ref b2), (.int 0), (.ref a1)])) rfl (hM rfl) (argsL := [(.ref a1), (.int 0), (.ref b2), (.int 0), (.int 7)]) (rest := []) (lenOf pd1 rfl) rfl (Nat.le_of_eq rfl) (B d3_9) (fun _ _ => ⟨rfl, e2, wl rfl, wl rfl⟩)
  dsimp only [Pt.U, Pt.locs, Pt.cells, Pt.slots] at X6 l6 y6 z6 st6 hQ6
  subst l6 y6 z6
  obtain ⟨rfl, N6q, K6, VL6⟩ := hQ6
  have N6 := Fr.app N0 N6q
  have pre7 : Go p e bl T6 (mkF m 12 #[rv a1, iv 0, iv 7, rv b2, .unset, .unset] [(.int 7)]) s1 EF := fun t k => pre5 t (st6 t k)
  have O8 : Old Z n0 T6.heap := O4.keep K6 (allS g_b2 all0)
  have Z8 : n0 ≤ T6.heap.size := Nat.le_trans Z4 K6.1
  have K8 : Keep h0 T6.heap [] := K4.trans K6 (allS (Or.inr sz_b2) all0)
  have pre9 : Go p e bl T6 (mkF m 17 #[rv a1, iv 0, iv 7, rv b2, iv 7, .unset] [(.int 7), (.int 7)]) s1 EF := fun t k => pre7 t (by
   refine XS.istore X6.here hx rfl (B d3_12) rfl (l' := #[rv a1, iv 0, iv 7, rv b2, iv 7, .unset]) rfl ?_
   refine XS.iload X6.here hx rfl (B d3_14) rfl ?_
   exact XS.iloadN X6.here hx rfl (B d3_16) rfl k)
  have pre10 : Go p e bl T6 (mkF m 57 #[rv a1, iv 0, iv 7, rv b2, iv 7, .unset] []) s1 EF := fun t k => pre9 t (XS.icmpYes X6.here hx rfl (pc0 := 17) (pc' := 57) rfl (B d3_17) rfl (teq (by decide : (7 : Int32) = (7 : Int32))).1 (by decide) (by decide) k)
  have pre11 : Go p e bl T6 (mkF m 58 #[rv a1, iv 0, iv 7, rv b2, iv 7, .unset] [(.ref b2)]) s1 EF := fun t k => pre10 t (by
   exact XS.aloadN X6.here hx rfl (B d3_57) rfl rfl k)
  exact fin1 X6 (v := some (.ref b2)) hrt hlk (wl rfl) (wl rfl) (by exact ⟨_, _, rfl, N6, K8, sz_b2, VL6⟩) (fun fs hr => hEF ▸ pre11 _ (retOut X6 hx Bd.returns rfl (Or.inr (Or.inr (Or.inr (Or.inr ⟨rfl, rfl, rfl⟩)))) (B d3_58) hr))
abbrev rKKa6 : Room := { frames := 0, cells := 0, slots := 0, locals := 0 }
theorem efKa6 (m : MethodId) (a1 : Addr) (a2 : Addr) : entryFrame m #[(.ref a1), (.int 0), (.ref a2), (.int 0), (.int 6)] 7 = mkF m 0 #[rv a1, iv 0, rv a2, iv 0, iv 6, .unset, .unset] [] := by first | (simp [entryFrame, mkF, argsToLocals, Value.category]; done) | rfl
def QKa6 (Z : State) (a1 : Addr) (a2 : Addr) (cz : Int32) (fv : Value) (k1 : ClassId) (k2 : ClassId) (c0 : Int32) (c1 : Int32) (c2 : Int32) (c3 : Int32) (c4 : Int32) (c5 : Int32) (h0 : Heap) (n0 : Nat) (v : Option Value) (h : Heap) (L : List Loc) : Prop := v = some (.int 6) ∧ Fr n0 L ∧ Keep h0 h [a2] ∧ Arv Z h a2 k2 .byte (6 : Int32) [(.int (c0.toInt8.toInt32)), (.int (c1.toInt8.toInt32)), (.int (c2.toInt8.toInt32)), (.int (c3.toInt8.toInt32)), (.int (c4.toInt8.toInt32)), (.int (c5.toInt8.toInt32))] (.int 0)
set_option maxRecDepth 65536 in
set_option maxHeartbeats 40000000 in
theorem rmKa6 (l : Launch) (Z : State) (a0 : Array Value) (hw : HW a0 Z) (ws : List Jvm.Cond) (a1 : Addr) (a2 : Addr) (cz : Int32) (fv : Value) (k1 : ClassId) (k2 : ClassId) (c0 : Int32) (c1 : Int32) (c2 : Int32) (c3 : Int32) (c4 : Int32) (c5 : Int32) (h0 : Heap) (n0 : Nat) (Z0 : n0 ≤ h0.size) (O0 : Old Z n0 h0) (J0 : Jd Z cz fv) (V1 : Arv Z h0 a1 k1 .char (6 : Int32) [(.int c0), (.int c1), (.int c2), (.int c3), (.int c4), (.int c5)] (.int 0)) (V2 : Arv Z h0 a2 k2 .byte (6 : Int32) [(.int 0), (.int 0), (.int 0), (.int 0), (.int 0), (.int 0)] (.int 0)) (ne12 : a1 ≠ a2) (g_a2 : n0 ≤ a2) (hle : (∀ c ∈ [c0, c1, c2, c3, c4, c5], ¬ (255 : Int32) < c)) :
    MF l Z mN2 jdk_52_method_21_code 7 (some .int) ws rKKa6 #[(.ref a1), (.int 0), (.ref a2), (.int 0), (.int 6)] h0 (QKa6 Z a1 a2 cz fv k1 k2 c0 c1 c2 c3 c4 c5 h0 n0) := by
  refine MetFree.of_bodySF (plainFor_of_name pn2) hisR ?_
  intro p e s m args bl meth c s1 Bd hml0 hP hK
  obtain ⟨rfl, hZ, hh⟩ := hP
  have hx := Bd.exec
  have hby := Bd.bytes
  have B := @hb c _ hby
  have hown : s.vm.findClass "java/lang/StringUTF16" = some m.cls := findClass_of_methodNamed Bd.named
  have hlk : meth.locks = false := BodyLoose.notSynchronized Bd
  have hrt : ∀ {v : Option Value}, meth.sig.returnType = none → v = none := fun h => by rw [Bd.returns] at h; cases h
  have X0 : Stand p l e rKKa6 s m #[(.ref a1), (.int 0), (.ref a2), (.int 0), (.int 6)] bl meth c s1 [] 0 0 := Stand.of_body Bd
  have e0 : s1.heap = h0 := by rw [← hh, Bd.state]; rfl
  have N0 := Fr.nil n0
  obtain ⟨EF, hEF⟩ : ∃ f, f = entryFrame m #[(.ref a1), (.int 0), (.ref a2), (.int 0), (.int 6)] 7 := ⟨_, rfl⟩
  have pre0 : Go p e bl s1 (mkF m 0 #[rv a1, iv 0, rv a2, iv 0, iv 6, .unset, .unset] []) s1 EF := fun t k => by rw [hEF]; exact castTop (efKa6 m a1 a2) k
  have pre1 : Go p e bl s1 (mkF m 7 #[rv a1, iv 0, rv a2, iv 0, iv 6, iv 0, .unset] [(.int 6), (.int 0)]) s1 EF := fun t k => pre0 t (by
   refine XS.iconst X0.here hx rfl (B d2_0) ?_
   refine XS.istore X0.here hx rfl (B d2_1) rfl (l' := #[rv a1, iv 0, rv a2, iv 0, iv 6, iv 0, .unset]) rfl ?_
   refine XS.iload X0.here hx rfl (B d2_3) rfl ?_
   exact XS.iload X0.here hx rfl (B d2_5) rfl k)
  have pre2 : Go p e bl s1 (mkF m 10 #[rv a1, iv 0, rv a2, iv 0, iv 6, iv 0, .unset] []) s1 EF := fun t k => pre1 t (XS.icmpNo X0.here hx rfl (B d2_7) rfl (tlt (by decide : (0 : Int32) < (6 : Int32))).2.1 k)
  have pre3 : Go p e bl s1 (mkF m 12 #[rv a1, iv 0, rv a2, iv 0, iv 6, iv 0, .unset] [(.int 0), (.ref a1)]) s1 EF := fun t k => pre2 t (by
   refine XS.aloadN X0.here hx rfl (B d2_10) rfl rfl ?_
   exact XS.iloadN X0.here hx rfl (B d2_11) rfl k)
  obtain ⟨cl4, Ar4, q4, Sz4, M4, H4, G4⟩ := id V1
  have hin4 := inb_of (j := (0 : Int32)) Sz4 ⟨by decide, by decide⟩
  have hat4 := Has.at (v := (.int c0)) H4 hin4 rfl
  have pre5 : Go p e bl s1 (mkF m 20 #[rv a1, iv 0, rv a2, iv 0, iv 6, iv 0, iv c0] [(.int 255), (.int c0)]) s1 EF := fun t k => pre3 t (by
   refine X0.caload hx (j := 0) (v := (.int c0)) (hp e0 Ar4) (State.isArrayOf_alike hZ.alike Ar4.2.1) Ar4.2.2 hin4 hat4 (g := (mkF m 12 #[rv a1, iv 0, rv a2, iv 0, iv 6, iv 0, .unset] [(.int 0), (.ref a1)])) rfl rfl (B d2_12) _ ?_
   refine XS.istore X0.here hx rfl (B d2_13) rfl (l' := #[rv a1, iv 0, rv a2, iv 0, iv 6, iv 0, iv c0]) rfl ?_
   refine XS.iload X0.here hx rfl (B d2_15) rfl ?_
   exact XS.sipush X0.here hx rfl (B d2_17) k)
  have pre6 : Go p e bl s1 (mkF m 26 #[rv a1, iv 0, rv a2, iv 0, iv 6, iv 0, iv c0] []) s1 EF := fun t k => pre5 t (XS.icmpYes X0.here hx rfl (pc0 := 20) (pc' := 26) rfl (B d2_20) rfl (flt (hle c0 (mg 0 rfl))).2.2.2 (by decide) (by decide) k)
  have pre7 : Go p e bl s1 (mkF m 31 #[rv a1, iv 0, rv a2, iv 0, iv 6, iv 0, iv c0] [(.int (c0.toInt8.toInt32)), (.int 0), (.ref a2)]) s1 EF := fun t k => pre6 t (by
   refine XS.aloadN X0.here hx rfl (B d2_26) rfl rfl ?_
   refine XS.iloadN X0.here hx rfl (B d2_27) rfl ?_
   refine XS.iload X0.here hx rfl (B d2_28) rfl ?_
   exact XS.i2b X0.here hx rfl (B d2_30) rfl k)
  obtain ⟨cl8, Ar8, q8, Sz8, M8, H8, G8⟩ := id V2
  have hin8 := inb_of (j := (0 : Int32)) Sz8 ⟨by decide, by decide⟩
  obtain ⟨T8, h8, X8, e8, W8, st8⟩ := stB X0 hx hZ e0 Ar8 (j := 0) hin8 (g := (mkF m 31 #[rv a1, iv 0, rv a2, iv 0, iv 6, iv 0, iv c0] [(.int (c0.toInt8.toInt32)), (.int 0), (.ref a2)])) rfl rfl (B d2_31)
  rw [own_i2b2] at W8
  have pre9 : Go p e bl T8 (mkF m 32 #[rv a1, iv 0, rv a2, iv 0, iv 6, iv 0, iv c0] []) s1 EF := fun t k => pre7 t (st8 t k)
  have O10 : Old Z n0 h8 := O0.wr W8 g_a2
  have Z10 : n0 ≤ h8.size := Nat.le_trans Z0 (Keep.of_wr W8).1
  have K10 : Keep h0 h8 [a2] := (Keep.refl h0 [a2]).wr W8 (Or.inl (mg 0 rfl))
  have V8 : Arv Z h8 a2 k2 .byte (6 : Int32) [(.int (c0.toInt8.toInt32)), (.int 0), (.int 0), (.int 0), (.int 0), (.int 0)] (.int 0) := Arv.set Ar8 q8 Sz8 M8 H8 G8 (fits_nar_byte _) W8 0 rfl (wl rfl)
  have N8 := Fr.snoc X8 N0 g_a2
  have pre11 : Go p e bl T8 (mkF m 7 #[rv a1, iv 1, rv a2, iv 1, iv 6, iv 1, iv c0] [(.int 6), (.int 1)]) s1 EF := fun t k => pre9 t (by
   refine XS.iinc X8.here hx rfl (B d2_32) rfl (l' := #[rv a1, iv 1, rv a2, iv 0, iv 6, iv 0, iv c0]) rfl ?_
   refine XS.iinc X8.here hx rfl (B d2_35) rfl (l' := #[rv a1, iv 1, rv a2, iv 1, iv 6, iv 0, iv c0]) rfl ?_
   refine XS.iinc X8.here hx rfl (B d2_38) rfl (l' := #[rv a1, iv 1, rv a2, iv 1, iv 6, iv 1, iv c0]) rfl ?_
   refine XS.goto X8.here hx rfl (pc0 := 41) (pc' := 3) rfl (B d2_41) (by decide) (by decide) ?_
   refine XS.iload X8.here hx rfl (B d2_3) rfl ?_
   exact XS.iload X8.here hx rfl (B d2_5) rfl k)
  have pre12 : Go p e bl T8 (mkF m 10 #[rv a1, iv 1, rv a2, iv 1, iv 6, iv 1, iv c0] []) s1 EF := fun t k => pre11 t (XS.icmpNo X8.here hx rfl (B d2_7) rfl (tlt (by decide : (1 : Int32) < (6 : Int32))).2.1 k)
  have pre13 : Go p e bl T8 (mkF m 12 #[rv a1, iv 1, rv a2, iv 1, iv 6, iv 1, iv c0] [(.int 1), (.ref a1)]) s1 EF := fun t k => pre12 t (by
   refine XS.aloadN X8.here hx rfl (B d2_10) rfl rfl ?_
   exact XS.iloadN X8.here hx rfl (B d2_11) rfl k)
  obtain ⟨cl14, Ar14, q14, Sz14, M14, H14, G14⟩ := id (V1.other W8 ne12)
  have hin14 := inb_of (j := (1 : Int32)) Sz14 ⟨by decide, by decide⟩
  have hat14 := Has.at (v := (.int c1)) H14 hin14 rfl
  have pre15 : Go p e bl T8 (mkF m 20 #[rv a1, iv 1, rv a2, iv 1, iv 6, iv 1, iv c1] [(.int 255), (.int c1)]) s1 EF := fun t k => pre13 t (by
   refine X8.caload hx (j := 1) (v := (.int c1)) (hp e8 Ar14) (State.isArrayOf_alike hZ.alike Ar14.2.1) Ar14.2.2 hin14 hat14 (g := (mkF m 12 #[rv a1, iv 1, rv a2, iv 1, iv 6, iv 1, iv c0] [(.int 1), (.ref a1)])) rfl rfl (B d2_12) _ ?_
   refine XS.istore X8.here hx rfl (B d2_13) rfl (l' := #[rv a1, iv 1, rv a2, iv 1, iv 6, iv 1, iv c1]) rfl ?_
   refine XS.iload X8.here hx rfl (B d2_15) rfl ?_
   exact XS.sipush X8.here hx rfl (B d2_17) k)
  have pre16 : Go p e bl T8 (mkF m 26 #[rv a1, iv 1, rv a2, iv 1, iv 6, iv 1, iv c1] []) s1 EF := fun t k => pre15 t (XS.icmpYes X8.here hx rfl (pc0 := 20) (pc' := 26) rfl (B d2_20) rfl (flt (hle c1 (mg 1 rfl))).2.2.2 (by decide) (by decide) k)
  have pre17 : Go p e bl T8 (mkF m 31 #[rv a1, iv 1, rv a2, iv 1, iv 6, iv 1, iv c1] [(.int (c1.toInt8.toInt32)), (.int 1), (.ref a2)]) s1 EF := fun t k => pre16 t (by
   refine XS.aloadN X8.here hx rfl (B d2_26) rfl rfl ?_
   refine XS.iloadN X8.here hx rfl (B d2_27) rfl ?_
   refine XS.iload X8.here hx rfl (B d2_28) rfl ?_
   exact XS.i2b X8.here hx rfl (B d2_30) rfl k)
  obtain ⟨cl18, Ar18, q18, Sz18, M18, H18, G18⟩ := id V8
  have hin18 := inb_of (j := (1 : Int32)) Sz18 ⟨by decide, by decide⟩
  obtain ⟨T18, h18, X18, e18, W18, st18⟩ := stB X8 hx hZ e8 Ar18 (j := 1) hin18 (g := (mkF m 31 #[rv a1, iv 1, rv a2, iv 1, iv 6, iv 1, iv c1] [(.int (c1.toInt8.toInt32)), (.int 1), (.ref a2)])) rfl rfl (B d2_31)
  rw [own_i2b2] at W18
  have pre19 : Go p e bl T18 (mkF m 32 #[rv a1, iv 1, rv a2, iv 1, iv 6, iv 1, iv c1] []) s1 EF := fun t k => pre17 t (st18 t k)
  have O20 : Old Z n0 h18 := O10.wr W18 g_a2
  have Z20 : n0 ≤ h18.size := Nat.le_trans Z10 (Keep.of_wr W18).1
  have K20 : Keep h0 h18 [a2] := K10.wr W18 (Or.inl (mg 0 rfl))
  have V18 : Arv Z h18 a2 k2 .byte (6 : Int32) [(.int (c0.toInt8.toInt32)), (.int (c1.toInt8.toInt32)), (.int 0), (.int 0), (.int 0), (.int 0)] (.int 0) := Arv.set Ar18 q18 Sz18 M18 H18 G18 (fits_nar_byte _) W18 1 rfl (wl rfl)
  have N18 := Fr.snoc X18 N8 g_a2
  have pre21 : Go p e bl T18 (mkF m 7 #[rv a1, iv 2, rv a2, iv 2, iv 6, iv 2, iv c1] [(.int 6), (.int 2)]) s1 EF := fun t k => pre19 t (by
   refine XS.iinc X18.here hx rfl (B d2_32) rfl (l' := #[rv a1, iv 2, rv a2, iv 1, iv 6, iv 1, iv c1]) rfl ?_
   refine XS.iinc X18.here hx rfl (B d2_35) rfl (l' := #[rv a1, iv 2, rv a2, iv 2, iv 6, iv 1, iv c1]) rfl ?_
   refine XS.iinc X18.here hx rfl (B d2_38) rfl (l' := #[rv a1, iv 2, rv a2, iv 2, iv 6, iv 2, iv c1]) rfl ?_
   refine XS.goto X18.here hx rfl (pc0 := 41) (pc' := 3) rfl (B d2_41) (by decide) (by decide) ?_
   refine XS.iload X18.here hx rfl (B d2_3) rfl ?_
   exact XS.iload X18.here hx rfl (B d2_5) rfl k)
  have pre22 : Go p e bl T18 (mkF m 10 #[rv a1, iv 2, rv a2, iv 2, iv 6, iv 2, iv c1] []) s1 EF := fun t k => pre21 t (XS.icmpNo X18.here hx rfl (B d2_7) rfl (tlt (by decide : (2 : Int32) < (6 : Int32))).2.1 k)
  have pre23 : Go p e bl T18 (mkF m 12 #[rv a1, iv 2, rv a2, iv 2, iv 6, iv 2, iv c1] [(.int 2), (.ref a1)]) s1 EF := fun t k => pre22 t (by
   refine XS.aloadN X18.here hx rfl (B d2_10) rfl rfl ?_
   exact XS.iloadN X18.here hx rfl (B d2_11) rfl k)
  obtain ⟨cl24, Ar24, q24, Sz24, M24, H24, G24⟩ := id ((V1.other W8 ne12).other W18 ne12)
  have hin24 := inb_of (j := (2 : Int32)) Sz24 ⟨by decide, by decide⟩
  have hat24 := Has.at (v := (.int c2)) H24 hin24 rfl
  have pre25 : Go p e bl T18 (mkF m 20 #[rv a1, iv 2, rv a2, iv 2, iv 6, iv 2, iv c2] [(.int 255), (.int c2)]) s1 EF := fun t k => pre23 t (by
   refine X18.caload hx (j := 2) (v := (.int c2)) (hp e18 Ar24) (State.isArrayOf_alike hZ.alike Ar24.2.1) Ar24.2.2 hin24 hat24 (g := (mkF m 12 #[rv a1, iv 2, rv a2, iv 2, iv 6, iv 2, iv c1] [(.int 2), (.ref a1)])) rfl rfl (B d2_12) _ ?_
   refine XS.istore X18.here hx rfl (B d2_13) rfl (l' := #[rv a1, iv 2, rv a2, iv 2, iv 6, iv 2, iv c2]) rfl ?_
   refine XS.iload X18.here hx rfl (B d2_15) rfl ?_
   exact XS.sipush X18.here hx rfl (B d2_17) k)
  have pre26 : Go p e bl T18 (mkF m 26 #[rv a1, iv 2, rv a2, iv 2, iv 6, iv 2, iv c2] []) s1 EF := fun t k => pre25 t (XS.icmpYes X18.here hx rfl (pc0 := 20) (pc' := 26) rfl (B d2_20) rfl (flt (hle c2 (mg 2 rfl))).2.2.2 (by decide) (by decide) k)
  have pre27 : Go p e bl T18 (mkF m 31 #[rv a1, iv 2, rv a2, iv 2, iv 6, iv 2, iv c2] [(.int (c2.toInt8.toInt32)), (.int 2), (.ref a2)]) s1 EF := fun t k => pre26 t (by
   refine XS.aloadN X18.here hx rfl (B d2_26) rfl rfl ?_
   refine XS.iloadN X18.here hx rfl (B d2_27) rfl ?_
   refine XS.iload X18.here hx rfl (B d2_28) rfl ?_
   exact XS.i2b X18.here hx rfl (B d2_30) rfl k)
  obtain ⟨cl28, Ar28, q28, Sz28, M28, H28, G28⟩ := id V18
  have hin28 := inb_of (j := (2 : Int32)) Sz28 ⟨by decide, by decide⟩
  obtain ⟨T28, h28, X28, e28, W28, st28⟩ := stB X18 hx hZ e18 Ar28 (j := 2) hin28 (g := (mkF m 31 #[rv a1, iv 2, rv a2, iv 2, iv 6, iv 2, iv c2] [(.int (c2.toInt8.toInt32)), (.int 2), (.ref a2)])) rfl rfl (B d2_31)
  rw [own_i2b2] at W28
  have pre29 : Go p e bl T28 (mkF m 32 #[rv a1, iv 2, rv a2, iv 2, iv 6, iv 2, iv c2] []) s1 EF := fun t k => pre27 t (st28 t k)
  have O30 : Old Z n0 h28 := O20.wr W28 g_a2
  have Z30 : n0 ≤ h28.size := Nat.le_trans Z20 (Keep.of_wr W28).1
  have K30 : Keep h0 h28 [a2] := K20.wr W28 (Or.inl (mg 0 rfl))
  have V28 : Arv Z h28 a2 k2 .byte (6 : Int32) [(.int (c0.toInt8.toInt32)), (.int (c1.toInt8.toInt32)), (.int (c2.toInt8.toInt32)), (.int 0), (.int 0), (.int 0)] (.int 0) := Arv.set Ar28 q28 Sz28 M28 H28 G28 (fits_nar_byte _) W28 2 rfl (wl rfl)
  have N28 := Fr.snoc X28 N18 g_a2
  have pre31 : Go p e bl T28 (mkF m 7 #[rv a1, iv 3, rv a2, iv 3, iv 6, iv 3, iv c2] [(.int 6), (.int 3)]) s1 EF := fun t k => pre29 t (by
   refine XS.iinc X28.here hx rfl (B d2_32) rfl (l' := #[rv a1, iv 3, rv a2, iv 2, iv 6, iv 2, iv c2]) rfl ?_
   refine XS.iinc X28.here hx rfl (B d2_35) rfl (l' := #[rv a1, iv 3, rv a2, iv 3, iv 6, iv 2, iv c2]) rfl ?_
   refine XS.iinc X28.here hx rfl (B d2_38) rfl (l' := #[rv a1, iv 3, rv a2, iv 3, iv 6, iv 3, iv c2]) rfl ?_
   refine XS.goto X28.here hx rfl (pc0 := 41) (pc' := 3) rfl (B d2_41) (by decide) (by decide) ?_
   refine XS.iload X28.here hx rfl (B d2_3) rfl ?_
   exact XS.iload X28.here hx rfl (B d2_5) rfl k)
  have pre32 : Go p e bl T28 (mkF m 10 #[rv a1, iv 3, rv a2, iv 3, iv 6, iv 3, iv c2] []) s1 EF := fun t k => pre31 t (XS.icmpNo X28.here hx rfl (B d2_7) rfl (tlt (by decide : (3 : Int32) < (6 : Int32))).2.1 k)
  have pre33 : Go p e bl T28 (mkF m 12 #[rv a1, iv 3, rv a2, iv 3, iv 6, iv 3, iv c2] [(.int 3), (.ref a1)]) s1 EF := fun t k => pre32 t (by
   refine XS.aloadN X28.here hx rfl (B d2_10) rfl rfl ?_
   exact XS.iloadN X28.here hx rfl (B d2_11) rfl k)
  obtain ⟨cl34, Ar34, q34, Sz34, M34, H34, G34⟩ := id (((V1.other W8 ne12).other W18 ne12).other W28 ne12)
  have hin34 := inb_of (j := (3 : Int32)) Sz34 ⟨by decide, by decide⟩
  have hat34 := Has.at (v := (.int c3)) H34 hin34 rfl
  have pre35 : Go p e bl T28 (mkF m 20 #[rv a1, iv 3, rv a2, iv 3, iv 6, iv 3, iv c3] [(.int 255), (.int c3)]) s1 EF := fun t k => pre33 t (by
   refine X28.caload hx (j := 3) (v := (.int c3)) (hp e28 Ar34) (State.isArrayOf_alike hZ.alike Ar34.2.1) Ar34.2.2 hin34 hat34 (g := (mkF m 12 #[rv a1, iv 3, rv a2, iv 3, iv 6, iv 3, iv c2] [(.int 3), (.ref a1)])) rfl rfl (B d2_12) _ ?_
   refine XS.istore X28.here hx rfl (B d2_13) rfl (l' := #[rv a1, iv 3, rv a2, iv 3, iv 6, iv 3, iv c3]) rfl ?_
   refine XS.iload X28.here hx rfl (B d2_15) rfl ?_
   exact XS.sipush X28.here hx rfl (B d2_17) k)
  have pre36 : Go p e bl T28 (mkF m 26 #[rv a1, iv 3, rv a2, iv 3, iv 6, iv 3, iv c3] []) s1 EF := fun t k => pre35 t (XS.icmpYes X28.here hx rfl (pc0 := 20) (pc' := 26) rfl (B d2_20) rfl (flt (hle c3 (mg 3 rfl))).2.2.2 (by decide) (by decide) k)
  have pre37 : Go p e bl T28 (mkF m 31 #[rv a1, iv 3, rv a2, iv 3, iv 6, iv 3, iv c3] [(.int (c3.toInt8.toInt32)), (.int 3), (.ref a2)]) s1 EF := fun t k => pre36 t (by
   refine XS.aloadN X28.here hx rfl (B d2_26) rfl rfl ?_
   refine XS.iloadN X28.here hx rfl (B d2_27) rfl ?_
   refine XS.iload X28.here hx rfl (B d2_28) rfl ?_
   exact XS.i2b X28.here hx rfl (B d2_30) rfl k)
  obtain ⟨cl38, Ar38, q38, Sz38, M38, H38, G38⟩ := id V28
  have hin38 := inb_of (j := (3 : Int32)) Sz38 ⟨by decide, by decide⟩
  obtain ⟨T38, h38, X38, e38, W38, st38⟩ := stB X28 hx hZ e28 Ar38 (j := 3) hin38 (g := (mkF m 31 #[rv a1, iv 3, rv a2, iv 3, iv 6, iv 3, iv c3] [(.int (c3.toInt8.toInt32)), (.int 3), (.ref a2)])) rfl rfl (B d2_31)
  rw [own_i2b2] at W38
  have pre39 : Go p e bl T38 (mkF m 32 #[rv a1, iv 3, rv a2, iv 3, iv 6, iv 3, iv c3] []) s1 EF := fun t k => pre37 t (st38 t k)
  have O40 : Old Z n0 h38 := O30.wr W38 g_a2
  have Z40 : n0 ≤ h38.size := Nat.le_trans Z30 (Keep.of_wr W38).1
  have K40 : Keep h0 h38 [a2] := K30.wr W38 (Or.inl (mg 0 rfl))
  have V38 : Arv Z h38 a2 k2 .byte (6 : Int32) [(.int (c0.toInt8.toInt32)), (.int (c1.toInt8.toInt32)), (.int (c2.toInt8.toInt32)), (.int (c3.toInt8.toInt32)), (.int 0), (.int 0)] (.int 0) := Arv.set Ar38 q38 Sz38 M38 H38 G38 (fits_nar_byte _) W38 3 rfl (wl rfl)
  have N38 := Fr.snoc X38 N28 g_a2
  have pre41 : Go p e bl T38 (mkF m 7 #[rv a1, iv 4, rv a2, iv 4, iv 6, iv 4, iv c3] [(.int 6), (.int 4)]) s1 EF := fun t k => pre39 t (by
   refine XS.iinc X38.here hx rfl (B d2_32) rfl (l' := #[rv a1, iv 4, rv a2, iv 3, iv 6, iv 3, iv c3]) rfl ?_
   refine XS.iinc X38.here hx rfl (B d2_35) rfl (l' := #[rv a1, iv 4, rv a2, iv 4, iv 6, iv 3, iv c3]) rfl ?_
   refine XS.iinc X38.here hx rfl (B d2_38) rfl (l' := #[rv a1, iv 4, rv a2, iv 4, iv 6, iv 4, iv c3]) rfl ?_
   refine XS.goto X38.here hx rfl (pc0 := 41) (pc' := 3) rfl (B d2_41) (by decide) (by decide) ?_
   refine XS.iload X38.here hx rfl (B d2_3) rfl ?_
   exact XS.iload X38.here hx rfl (B d2_5) rfl k)
  have pre42 : Go p e bl T38 (mkF m 10 #[rv a1, iv 4, rv a2, iv 4, iv 6, iv 4, iv c3] []) s1 EF := fun t k => pre41 t (XS.icmpNo X38.here hx rfl (B d2_7) rfl (tlt (by decide : (4 : Int32) < (6 : Int32))).2.1 k)
  have pre43 : Go p e bl T38 (mkF m 12 #[rv a1, iv 4, rv a2, iv 4, iv 6, iv 4, iv c3] [(.int 4), (.ref a1)]) s1 EF := fun t k => pre42 t (by
   refine XS.aloadN X38.here hx rfl (B d2_10) rfl rfl ?_
   exact XS.iloadN X38.here hx rfl (B d2_11) rfl k)
  obtain ⟨cl44, Ar44, q44, Sz44, M44, H44, G44⟩ := id ((((V1.other W8 ne12).other W18 ne12).other W28 ne12).other W38 ne12)
  have hin44 := inb_of (j := (4 : Int32)) Sz44 ⟨by decide, by decide⟩
  have hat44 := Has.at (v := (.int c4)) H44 hin44 rfl
  have pre45 : Go p e bl T38 (mkF m 20 #[rv a1, iv 4, rv a2, iv 4, iv 6, iv 4, iv c4] [(.int 255), (.int c4)]) s1 EF := fun t k => pre43 t (by
   refine X38.caload hx (j := 4) (v := (.int c4)) (hp e38 Ar44) (State.isArrayOf_alike hZ.alike Ar44.2.1) Ar44.2.2 hin44 hat44 (g := (mkF m 12 #[rv a1, iv 4, rv a2, iv 4, iv 6, iv 4, iv c3] [(.int 4), (.ref a1)])) rfl rfl (B d2_12) _ ?_
   refine XS.istore X38.here hx rfl (B d2_13) rfl (l' := #[rv a1, iv 4, rv a2, iv 4, iv 6, iv 4, iv c4]) rfl ?_
   refine XS.iload X38.here hx rfl (B d2_15) rfl ?_
   exact XS.sipush X38.here hx rfl (B d2_17) k)
  have pre46 : Go p e bl T38 (mkF m 26 #[rv a1, iv 4, rv a2, iv 4, iv 6, iv 4, iv c4] []) s1 EF := fun t k => pre45 t (XS.icmpYes X38.here hx rfl (pc0 := 20) (pc' := 26) rfl (B d2_20) rfl (flt (hle c4 (mg 4 rfl))).2.2.2 (by decide) (by decide) k)
  have pre47 : Go p e bl T38 (mkF m 31 #[rv a1, iv 4, rv a2, iv 4, iv 6, iv 4, iv c4] [(.int (c4.toInt8.toInt32)), (.int 4), (.ref a2)]) s1 EF := fun t k => pre46 t (by
   refine XS.aloadN X38.here hx rfl (B d2_26) rfl rfl ?_
   refine XS.iloadN X38.here hx rfl (B d2_27) rfl ?_
   refine XS.iload X38.here hx rfl (B d2_28) rfl ?_
   exact XS.i2b X38.here hx rfl (B d2_30) rfl k)
  obtain ⟨cl48, Ar48, q48, Sz48, M48, H48, G48⟩ := id V38
  have hin48 := inb_of (j := (4 : Int32)) Sz48 ⟨by decide, by decide⟩
  obtain ⟨T48, h48, X48, e48, W48, st48⟩ := stB X38 hx hZ e38 Ar48 (j := 4) hin48 (g := (mkF m 31 #[rv a1, iv 4, rv a2, iv 4, iv 6, iv 4, iv c4] [(.int (c4.toInt8.toInt32)), (.int 4), (.ref a2)])) rfl rfl (B d2_31)
  rw [own_i2b2] at W48
  have pre49 : Go p e bl T48 (mkF m 32 #[rv a1, iv 4, rv a2, iv 4, iv 6, iv 4, iv c4] []) s1 EF := fun t k => pre47 t (st48 t k)
  have O50 : Old Z n0 h48 := O40.wr W48 g_a2
  have Z50 : n0 ≤ h48.size := Nat.le_trans Z40 (Keep.of_wr W48).1
  have K50 : Keep h0 h48 [a2] := K40.wr W48 (Or.inl (mg 0 rfl))
  have V48 : Arv Z h48 a2 k2 .byte (6 : Int32) [(.int (c0.toInt8.toInt32)), (.int (c1.toInt8.toInt32)), (.int (c2.toInt8.toInt32)), (.int (c3.toInt8.toInt32)), (.int (c4.toInt8.toInt32)), (.int 0)] (.int 0) := Arv.set Ar48 q48 Sz48 M48 H48 G48 (fits_nar_byte _) W48 4 rfl (wl rfl)
  have N48 := Fr.snoc X48 N38 g_a2
  have pre51 : Go p e bl T48 (mkF m 7 #[rv a1, iv 5, rv a2, iv 5, iv 6, iv 5, iv c4] [(.int 6), (.int 5)]) s1 EF := fun t k => pre49 t (by
   refine XS.iinc X48.here hx rfl (B d2_32) rfl (l' := #[rv a1, iv 5, rv a2, iv 4, iv 6, iv 4, iv c4]) rfl ?_
   refine XS.iinc X48.here hx rfl (B d2_35) rfl (l' := #[rv a1, iv 5, rv a2, iv 5, iv 6, iv 4, iv c4]) rfl ?_
   refine XS.iinc X48.here hx rfl (B d2_38) rfl (l' := #[rv a1, iv 5, rv a2, iv 5, iv 6, iv 5, iv c4]) rfl ?_
   refine XS.goto X48.here hx rfl (pc0 := 41) (pc' := 3) rfl (B d2_41) (by decide) (by decide) ?_
   refine XS.iload X48.here hx rfl (B d2_3) rfl ?_
   exact XS.iload X48.here hx rfl (B d2_5) rfl k)
  have pre52 : Go p e bl T48 (mkF m 10 #[rv a1, iv 5, rv a2, iv 5, iv 6, iv 5, iv c4] []) s1 EF := fun t k => pre51 t (XS.icmpNo X48.here hx rfl (B d2_7) rfl (tlt (by decide : (5 : Int32) < (6 : Int32))).2.1 k)
  have pre53 : Go p e bl T48 (mkF m 12 #[rv a1, iv 5, rv a2, iv 5, iv 6, iv 5, iv c4] [(.int 5), (.ref a1)]) s1 EF := fun t k => pre52 t (by
   refine XS.aloadN X48.here hx rfl (B d2_10) rfl rfl ?_
   exact XS.iloadN X48.here hx rfl (B d2_11) rfl k)
  obtain ⟨cl54, Ar54, q54, Sz54, M54, H54, G54⟩ := id (((((V1.other W8 ne12).other W18 ne12).other W28 ne12).other W38 ne12).other W48 ne12)
  have hin54 := inb_of (j := (5 : Int32)) Sz54 ⟨by decide, by decide⟩
  have hat54 := Has.at (v := (.int c5)) H54 hin54 rfl
  have pre55 : Go p e bl T48 (mkF m 20 #[rv a1, iv 5, rv a2, iv 5, iv 6, iv 5, iv c5] [(.int 255), (.int c5)]) s1 EF := fun t k => pre53 t (by
   refine X48.caload hx (j := 5) (v := (.int c5)) (hp e48 Ar54) (State.isArrayOf_alike hZ.alike Ar54.2.1) Ar54.2.2 hin54 hat54 (g := (mkF m 12 #[rv a1, iv 5, rv a2, iv 5, iv 6, iv 5, iv c4] [(.int 5), (.ref a1)])) rfl rfl (B d2_12) _ ?_
   refine XS.istore X48.here hx rfl (B d2_13) rfl (l' := #[rv a1, iv 5, rv a2, iv 5, iv 6, iv 5, iv c5]) rfl ?_
   refine XS.iload X48.here hx rfl (B d2_15) rfl ?_
   exact XS.sipush X48.here hx rfl (B d2_17) k)
  have pre56 : Go p e bl T48 (mkF m 26 #[rv a1, iv 5, rv a2, iv 5, iv 6, iv 5, iv c5] []) s1 EF := fun t k => pre55 t (XS.icmpYes X48.here hx rfl (pc0 := 20) (pc' := 26) rfl (B d2_20) rfl (flt (hle c5 (mg 5 rfl))).2.2.2 (by decide) (by decide) k)
  have pre57 : Go p e bl T48 (mkF m 31 #[rv a1, iv 5, rv a2, iv 5, iv 6, iv 5, iv c5] [(.int (c5.toInt8.toInt32)), (.int 5), (.ref a2)]) s1 EF := fun t k => pre56 t (by
   refine XS.aloadN X48.here hx rfl (B d2_26) rfl rfl ?_
   refine XS.iloadN X48.here hx rfl (B d2_27) rfl ?_
   refine XS.iload X48.here hx rfl (B d2_28) rfl ?_
   exact XS.i2b X48.here hx rfl (B d2_30) rfl k)
  obtain ⟨cl58, Ar58, q58, Sz58, M58, H58, G58⟩ := id V48
  have hin58 := inb_of (j := (5 : Int32)) Sz58 ⟨by decide, by decide⟩
  obtain ⟨T58, h58, X58, e58, W58, st58⟩ := stB X48 hx hZ e48 Ar58 (j := 5) hin58 (g := (mkF m 31 #[rv a1, iv 5, rv a2, iv 5, iv 6, iv 5, iv c5] [(.int (c5.toInt8.toInt32)), (.int 5), (.ref a2)])) rfl rfl (B d2_31)
  rw [own_i2b2] at W58
  have pre59 : Go p e bl T58 (mkF m 32 #[rv a1, iv 5, rv a2, iv 5, iv 6, iv 5, iv c5] []) s1 EF := fun t k => pre57 t (st58 t k)
  have O60 : Old Z n0 h58 := O50.wr W58 g_a2
  have Z60 : n0 ≤ h58.size := Nat.le_trans Z50 (Keep.of_wr W58).1
  have K60 : Keep h0 h58 [a2] := K50.wr W58 (Or.inl (mg 0 rfl))
  have V58 : Arv Z h58 a2 k2 .byte (6 : Int32) [(.int (c0.toInt8.toInt32)), (.int (c1.toInt8.toInt32)), (.int (c2.toInt8.toInt32)), (.int (c3.toInt8.toInt32)), (.int (c4.toInt8.toInt32)), (.int (c5.toInt8.toInt32))] (.int 0) := Arv.set Ar58 q58 Sz58 M58 H58 G58 (fits_nar_byte _) W58 5 rfl (wl rfl)
  have N58 := Fr.snoc X58 N48 g_a2
  have pre61 : Go p e bl T58 (mkF m 7 #[rv a1, iv 6, rv a2, iv 6, iv 6, iv 6, iv c5] [(.int 6), (.int 6)]) s1 EF := fun t k => pre59 t (by
   refine XS.iinc X58.here hx rfl (B d2_32) rfl (l' := #[rv a1, iv 6, rv a2, iv 5, iv 6, iv 5, iv c5]) rfl ?_
   refine XS.iinc X58.here hx rfl (B d2_35) rfl (l' := #[rv a1, iv 6, rv a2, iv 6, iv 6, iv 5, iv c5]) rfl ?_
   refine XS.iinc X58.here hx rfl (B d2_38) rfl (l' := #[rv a1, iv 6, rv a2, iv 6, iv 6, iv 6, iv c5]) rfl ?_
   refine XS.goto X58.here hx rfl (pc0 := 41) (pc' := 3) rfl (B d2_41) (by decide) (by decide) ?_
   refine XS.iload X58.here hx rfl (B d2_3) rfl ?_
   exact XS.iload X58.here hx rfl (B d2_5) rfl k)
  have pre62 : Go p e bl T58 (mkF m 44 #[rv a1, iv 6, rv a2, iv 6, iv 6, iv 6, iv c5] []) s1 EF := fun t k => pre61 t (XS.icmpYes X58.here hx rfl (pc0 := 7) (pc' := 44) rfl (B d2_7) rfl (flt (by decide : ¬ ((6 : Int32) < (6 : Int32)))).2.1 (by decide) (by decide) k)
  have pre63 : Go p e bl T58 (mkF m 46 #[rv a1, iv 6, rv a2, iv 6, iv 6, iv 6, iv c5] [(.int 6)]) s1 EF := fun t k => pre62 t (by
   exact XS.iload X58.here hx rfl (B d2_44) rfl k)
  exact fin1 X58 (v := some (.int 6)) hrt hlk (wl rfl) (wl rfl) (by rw [e58]; exact ⟨rfl, N58, K60, V58⟩) (fun fs hr => hEF ▸ pre63 _ (retOut X58 hx Bd.returns rfl (Or.inl ⟨rfl, Or.inl rfl, _, rfl⟩) (B d2_46) hr))
abbrev rKKb6 : Room := { frames := 1, cells := 1, slots := 10, locals := 18 }
theorem efKb6 (m : MethodId) (a1 : Addr) : entryFrame m #[(.ref a1), (.int 0), (.int 6)] 6 = mkF m 0 #[rv a1, iv 0, iv 6, .unset, .unset, .unset] [] := by first | (simp [entryFrame, mkF, argsToLocals, Value.category]; done) | rfl
def QKb6 (Z : State) (a1 : Addr) (cz : Int32) (fv : Value) (k1 : ClassId) (c0 : Int32) (c1 : Int32) (c2 : Int32) (c3 : Int32) (c4 : Int32) (c5 : Int32) (h0 : Heap) (n0 : Nat) (v : Option Value) (h : Heap) (L : List Loc) : Prop := ∃ b k, v = some (.ref b) ∧ Fr n0 L ∧ Keep h0 h [] ∧ h0.size ≤ b ∧ Arv Z h b k .byte (6 : Int32) [(.int (c0.toInt8.toInt32)), (.int (c1.toInt8.toInt32)), (.int (c2.toInt8.toInt32)), (.int (c3.toInt8.toInt32)), (.int (c4.toInt8.toInt32)), (.int (c5.toInt8.toInt32))] (.int 0)
set_option maxRecDepth 65536 in
set_option maxHeartbeats 40000000 in
theorem rmKb6 (l : Launch) (Z : State) (a0 : Array Value) (hw : HW a0 Z) (ws : List Jvm.Cond) (a1 : Addr) (cz : Int32) (fv : Value) (k1 : ClassId) (c0 : Int32) (c1 : Int32) (c2 : Int32) (c3 : Int32) (c4 : Int32) (c5 : Int32) (h0 : Heap) (n0 : Nat) (Z0 : n0 ≤ h0.size) (O0 : Old Z n0 h0) (J0 : Jd Z cz fv) (V1 : Arv Z h0 a1 k1 .char (6 : Int32) [(.int c0), (.int c1), (.int c2), (.int c3), (.int c4), (.int c5)] (.int 0)) (hle : (∀ c ∈ [c0, c1, c2, c3, c4, c5], ¬ (255 : Int32) < c)) :
    MF l Z mN3 jdk_52_method_16_code 6 (some (.array .byte)) ws rKKb6 #[(.ref a1), (.int 0), (.int 6)] h0 (QKb6 Z a1 cz fv k1 c0 c1 c2 c3 c4 c5 h0 n0) := by
  refine MetFree.of_bodySF (plainFor_of_name pn2) hisR ?_
  intro p e s m args bl meth c s1 Bd hml0 hP hK
  obtain ⟨rfl, hZ, hh⟩ := hP
  have hx := Bd.exec
  have hby := Bd.bytes
  have B := @hb c _ hby
  have hM := fun {n : Nat} (h : n = 6) => h.trans hml0.symm
  have hown : s.vm.findClass "java/lang/StringUTF16" = some m.cls := findClass_of_methodNamed Bd.named
  have hlk : meth.locks = false := BodyLoose.notSynchronized Bd
  have hrt : ∀ {v : Option Value}, meth.sig.returnType = none → v = none := fun h => by rw [Bd.returns] at h; cases h
  have X0 : Stand p l e rKKb6 s m #[(.ref a1), (.int 0), (.int 6)] bl meth c s1 [] 0 0 := Stand.of_body Bd
  have e0 : s1.heap = h0 := by rw [← hh, Bd.state]; rfl
  have N0 := Fr.nil n0
  obtain ⟨EF, hEF⟩ : ∃ f, f = entryFrame m #[(.ref a1), (.int 0), (.int 6)] 6 := ⟨_, rfl⟩
  have pre0 : Go p e bl s1 (mkF m 0 #[rv a1, iv 0, iv 6, .unset, .unset, .unset] []) s1 EF := fun t k => by rw [hEF]; exact castTop (efKb6 m a1) k
  have pre1 : Go p e bl s1 (mkF m 1 #[rv a1, iv 0, iv 6, .unset, .unset, .unset] [(.int 6)]) s1 EF := fun t k => pre0 t (by
   exact XS.iloadN X0.here hx rfl (B d3_0) rfl k)
  obtain ⟨T2, h2, k2, X2, e2, Et2, A2, st2⟩ := newP X0 hx hZ (hw _ (mW 23 rfl)) e0 (g := (mkF m 1 #[rv a1, iv 0, iv 6, .unset, .unset, .unset] [(.int 6)])) rfl (B d3_1) rfl (by decide) (cap := 6) (by decide) (by decide) (by decide) (by decide)
  obtain ⟨b2, g2⟩ : ∃ z, z = h0.size := ⟨_, rfl⟩
  rw [← g2] at A2 st2
  have g_b2 : n0 ≤ b2 := Nat.le_trans Z0 (Nat.le_of_eq g2.symm)
  have sz_b2 : h0.size ≤ b2 := Nat.le_trans (Keep.refl h0 []).1 (Nat.le_of_eq g2.symm)
  have ne_a1_b2 : a1 ≠ b2 := Nat.ne_of_lt (Nat.lt_of_lt_of_le V1.lt (Nat.le_of_eq g2.symm))
  have pre3 : Go p e bl T2 (mkF m 3 #[rv a1, iv 0, iv 6, .unset, .unset, .unset] [(.ref b2)]) s1 EF := fun t k => pre1 t (st2 t k)
  have O4 : Old Z n0 h2 := O0.ext Et2
  have Z4 : n0 ≤ h2.size := Nat.le_trans Z0 Et2.1
  have K4 : Keep h0 h2 [] := (Keep.refl h0 []).ext Et2
  have V2 : Arv Z h2 b2 k2 .byte (6 : Int32) [(.int 0), (.int 0), (.int 0), (.int 0), (.int 0), (.int 0)] (.int 0) := (Arv.new A2 (by decide)).pad (pad_rep [] (.int 0) 6)
  have pre5 : Go p e bl T2 (mkF m 9 #[rv a1, iv 0, iv 6, rv b2, .unset, .unset] [(.int 6), (.int 0), (.ref b2), (.int 0), (.ref a1)]) s1 EF := fun t k => pre3 t (by
   refine XS.astoreN X2.here hx rfl (B d3_3) rfl rfl (l' := #[rv a1, iv 0, iv 6, rv b2, .unset, .unset]) rfl ?_
   refine XS.aloadN X2.here hx rfl (B d3_4) rfl rfl ?_
   refine XS.iloadN X2.here hx rfl (B d3_5) rfl ?_
   refine XS.aloadN X2.here hx rfl (B d3_6) rfl rfl ?_
   refine XS.iconst X2.here hx rfl (B d3_7) ?_
   exact XS.iloadN X2.here hx rfl (B d3_8) rfl k)
  obtain ⟨_, _, ⟨T6, L6, k6, n6⟩, -, X6, ⟨Lc6, hQ6, l6, y6, z6⟩, st6⟩ := Jvm.LawKit.callS X2 hx (y := mN2) hown (mvT hZ (hw _ (mW 24 rfl))) (mvT hZ (hw _ (mW 25 rfl))) (mvT hZ (hw _ (mW 21 rfl))) (mvT hZ (hw _ (mW 26 rfl))) (by decide) (backOf (W := 0) (rmKa6 l Z a0 hw [] a1 b2 cz fv k1 k2 c0 c1 c2 c3 c4 c5 h2 n0 Z4 O4 J0 (V1.ext Et2) V2 ne_a1_b2 g_b2 hle) hZ (hw _ (mW 26 rfl)) (hw _ (mW 21 rfl)) (by decide) (by decide)) (g := (mkF m 9 #[rv a1, iv 0, iv 6, rv b2, .unset, .unset] [(.int 6), (.int 0), (.ref b2), (.int 0), (.ref a1)])) rfl (hM rfl) (argsL := [(.ref a1), (.int 0), (.ref b2), (.int 0), (.int 6)]) (rest := []) (lenOf pd1 rfl) rfl (Nat.le_of_eq rfl) (B d3_9) (fun _ _ => ⟨rfl, e2, wl rfl, wl rfl⟩)
  dsimp only [Pt.U, Pt.locs, Pt.cells, Pt.slots] at X6 l6 y6 z6 st6 hQ6
  subst l6 y6 z6
  obtain ⟨rfl, N6q, K6, VL6⟩ := hQ6
  have N6 := Fr.app N0 N6q
  have pre7 : Go p e bl T6 (mkF m 12 #[rv a1, iv 0, iv 6, rv b2, .unset, .unset] [(.int 6)]) s1 EF := fun t k => pre5 t (st6 t k)
  have O8 : Old Z n0 T6.heap := O4.keep K6 (allS g_b2 all0)
  have Z8 : n0 ≤ T6.heap.size := Nat.le_trans Z4 K6.1
  have K8 : Keep h0 T6.heap [] := K4.trans K6 (allS (Or.inr sz_b2) all0)
  have pre9 : Go p e bl T6 (mkF m 17 #[rv a1, iv 0, iv 6, rv b2, iv 6, .unset] [(.int 6), (.int 6)]) s1 EF := fun t k => pre7 t (by
   refine XS.istore X6.here hx rfl (B d3_12) rfl (l' := #[rv a1, iv 0, iv 6, rv b2, iv 6, .unset]) rfl ?_
   refine XS.iload X6.here hx rfl (B d3_14) rfl ?_
   exact XS.iloadN X6.here hx rfl (B d3_16) rfl k)
  have pre10 : Go p e bl T6 (mkF m 57 #[rv a1, iv 0, iv 6, rv b2, iv 6, .unset] []) s1 EF := fun t k => pre9 t (XS.icmpYes X6.here hx rfl (pc0 := 17) (pc' := 57) rfl (B d3_17) rfl (teq (by decide : (6 : Int32) = (6 : Int32))).1 (by decide) (by decide) k)
  have pre11 : Go p e bl T6 (mkF m 58 #[rv a1, iv 0, iv 6, rv b2, iv 6, .unset] [(.ref b2)]) s1 EF := fun t k => pre10 t (by
   exact XS.aloadN X6.here hx rfl (B d3_57) rfl rfl k)
  exact fin1 X6 (v := some (.ref b2)) hrt hlk (wl rfl) (wl rfl) (by exact ⟨_, _, rfl, N6, K8, sz_b2, VL6⟩) (fun fs hr => hEF ▸ pre11 _ (retOut X6 hx Bd.returns rfl (Or.inr (Or.inr (Or.inr (Or.inr ⟨rfl, rfl, rfl⟩)))) (B d3_58) hr))
abbrev rKKa5 : Room := { frames := 0, cells := 0, slots := 0, locals := 0 }
theorem efKa5 (m : MethodId) (a1 : Addr) (a2 : Addr) : entryFrame m #[(.ref a1), (.int 0), (.ref a2), (.int 0), (.int 5)] 7 = mkF m 0 #[rv a1, iv 0, rv a2, iv 0, iv 5, .unset, .unset] [] := by first | (simp [entryFrame, mkF, argsToLocals, Value.category]; done) | rfl
def QKa5 (Z : State) (a1 : Addr) (a2 : Addr) (cz : Int32) (fv : Value) (k1 : ClassId) (k2 : ClassId) (c0 : Int32) (c1 : Int32) (c2 : Int32) (c3 : Int32) (c4 : Int32) (h0 : Heap) (n0 : Nat) (v : Option Value) (h : Heap) (L : List Loc) : Prop := v = some (.int 5) ∧ Fr n0 L ∧ Keep h0 h [a2] ∧ Arv Z h a2 k2 .byte (5 : Int32) [(.int (c0.toInt8.toInt32)), (.int (c1.toInt8.toInt32)), (.int (c2.toInt8.toInt32)), (.int (c3.toInt8.toInt32)), (.int (c4.toInt8.toInt32))] (.int 0)
set_option maxRecDepth 65536 in
set_option maxHeartbeats 40000000 in
theorem rmKa5 (l : Launch) (Z : State) (a0 : Array Value) (hw : HW a0 Z) (ws : List Jvm.Cond) (a1 : Addr) (a2 : Addr) (cz : Int32) (fv : Value) (k1 : ClassId) (k2 : ClassId) (c0 : Int32) (c1 : Int32) (c2 : Int32) (c3 : Int32) (c4 : Int32) (h0 : Heap) (n0 : Nat) (Z0 : n0 ≤ h0.size) (O0 : Old Z n0 h0) (J0 : Jd Z cz fv) (V1 : Arv Z h0 a1 k1 .char (5 : Int32) [(.int c0), (.int c1), (.int c2), (.int c3), (.int c4)] (.int 0)) (V2 : Arv Z h0 a2 k2 .byte (5 : Int32) [(.int 0), (.int 0), (.int 0), (.int 0), (.int 0)] (.int 0)) (ne12 : a1 ≠ a2) (g_a2 : n0 ≤ a2) (hle : (∀ c ∈ [c0, c1, c2, c3, c4], ¬ (255 : Int32) < c)) :
    MF l Z mN2 jdk_52_method_21_code 7 (some .int) ws rKKa5 #[(.ref a1), (.int 0), (.ref a2), (.int 0), (.int 5)] h0 (QKa5 Z a1 a2 cz fv k1 k2 c0 c1 c2 c3 c4 h0 n0) := by
  refine MetFree.of_bodySF (plainFor_of_name pn2) hisR ?_
  intro p e s m args bl meth c s1 Bd hml0 hP hK
  obtain ⟨rfl, hZ, hh⟩ := hP
  have hx := Bd.exec
  have hby := Bd.bytes
  have B := @hb c _ hby
  have hown : s.vm.findClass "java/lang/StringUTF16" = some m.cls := findClass_of_methodNamed Bd.named
  have hlk : meth.locks = false := BodyLoose.notSynchronized Bd
  have hrt : ∀ {v : Option Value}, meth.sig.returnType = none → v = none := fun h => by rw [Bd.returns] at h; cases h
  have X0 : Stand p l e rKKa5 s m #[(.ref a1), (.int 0), (.ref a2), (.int 0), (.int 5)] bl meth c s1 [] 0 0 := Stand.of_body Bd
  have e0 : s1.heap = h0 := by rw [← hh, Bd.state]; rfl
  have N0 := Fr.nil n0
  obtain ⟨EF, hEF⟩ : ∃ f, f = entryFrame m #[(.ref a1), (.int 0), (.ref a2), (.int 0), (.int 5)] 7 := ⟨_, rfl⟩
  have pre0 : Go p e bl s1 (mkF m 0 #[rv a1, iv 0, rv a2, iv 0, iv 5, .unset, .unset] []) s1 EF := fun t k => by rw [hEF]; exact castTop (efKa5 m a1 a2) k
  have pre1 : Go p e bl s1 (mkF m 7 #[rv a1, iv 0, rv a2, iv 0, iv 5, iv 0, .unset] [(.int 5), (.int 0)]) s1 EF := fun t k => pre0 t (by
   refine XS.iconst X0.here hx rfl (B d2_0) ?_
   refine XS.istore X0.here hx rfl (B d2_1) rfl (l' := #[rv a1, iv 0, rv a2, iv 0, iv 5, iv 0, .unset]) rfl ?_
   refine XS.iload X0.here hx rfl (B d2_3) rfl ?_
   exact XS.iload X0.here hx rfl (B d2_5) rfl k)
  have pre2 : Go p e bl s1 (mkF m 10 #[rv a1, iv 0, rv a2, iv 0, iv 5, iv 0, .unset] []) s1 EF := fun t k => pre1 t (XS.icmpNo X0.here hx rfl (B d2_7) rfl (tlt (by decide : (0 : Int32) < (5 : Int32))).2.1 k)
  have pre3 : Go p e bl s1 (mkF m 12 #[rv a1, iv 0, rv a2, iv 0, iv 5, iv 0, .unset] [(.int 0), (.ref a1)]) s1 EF := fun t k => pre2 t (by
   refine XS.aloadN X0.here hx rfl (B d2_10) rfl rfl ?_
   exact XS.iloadN X0.here hx rfl (B d2_11) rfl k)
  obtain ⟨cl4, Ar4, q4, Sz4, M4, H4, G4⟩ := id V1
  have hin4 := inb_of (j := (0 : Int32)) Sz4 ⟨by decide, by decide⟩
  have hat4 := Has.at (v := (.int c0)) H4 hin4 rfl
  have pre5 : Go p e bl s1 (mkF m 20 #[rv a1, iv 0, rv a2, iv 0, iv 5, iv 0, iv c0] [(.int 255), (.int c0)]) s1 EF := fun t k => pre3 t (by
   refine X0.caload hx (j := 0) (v := (.int c0)) (hp e0 Ar4) (State.isArrayOf_alike hZ.alike Ar4.2.1) Ar4.2.2 hin4 hat4 (g := (mkF m 12 #[rv a1, iv 0, rv a2, iv 0, iv 5, iv 0, .unset] [(.int 0), (.ref a1)])) rfl rfl (B d2_12) _ ?_
   refine XS.istore X0.here hx rfl (B d2_13) rfl (l' := #[rv a1, iv 0, rv a2, iv 0, iv 5, iv 0, iv c0]) rfl ?_
   refine XS.iload X0.here hx rfl (B d2_15) rfl ?_
   exact XS.sipush X0.here hx rfl (B d2_17) k)
  have pre6 : Go p e bl s1 (mkF m 26 #[rv a1, iv 0, rv a2, iv 0, iv 5, iv 0, iv c0] []) s1 EF := fun t k => pre5 t (XS.icmpYes X0.here hx rfl (pc0 := 20) (pc' := 26) rfl (B d2_20) rfl (flt (hle c0 (mg 0 rfl))).2.2.2 (by decide) (by decide) k)
  have pre7 : Go p e bl s1 (mkF m 31 #[rv a1, iv 0, rv a2, iv 0, iv 5, iv 0, iv c0] [(.int (c0.toInt8.toInt32)), (.int 0), (.ref a2)]) s1 EF := fun t k => pre6 t (by
   refine XS.aloadN X0.here hx rfl (B d2_26) rfl rfl ?_
   refine XS.iloadN X0.here hx rfl (B d2_27) rfl ?_
   refine XS.iload X0.here hx rfl (B d2_28) rfl ?_
   exact XS.i2b X0.here hx rfl (B d2_30) rfl k)
  obtain ⟨cl8, Ar8, q8, Sz8, M8, H8, G8⟩ := id V2
  have hin8 := inb_of (j := (0 : Int32)) Sz8 ⟨by decide, by decide⟩
  obtain ⟨T8, h8, X8, e8, W8, st8⟩ := stB X0 hx hZ e0 Ar8 (j := 0) hin8 (g := (mkF m 31 #[rv a1, iv 0, rv a2, iv 0, iv 5, iv 0, iv c0] [(.int (c0.toInt8.toInt32)), (.int 0), (.ref a2)])) rfl rfl (B d2_31)
  rw [own_i2b2] at W8
  have pre9 : Go p e bl T8 (mkF m 32 #[rv a1, iv 0, rv a2, iv 0, iv 5, iv 0, iv c0] []) s1 EF := fun t k => pre7 t (st8 t k)
  have O10 : Old Z n0 h8 := O0.wr W8 g_a2
  have Z10 : n0 ≤ h8.size := Nat.le_trans Z0 (Keep.of_wr W8).1
  have K10 : Keep h0 h8 [a2] := (Keep.refl h0 [a2]).wr W8 (Or.inl (mg 0 rfl))
  have V8 : Arv Z h8 a2 k2 .byte (5 : Int32) [(.int (c0.toInt8.toInt32)), (.int 0), (.int 0), (.int 0), (.int 0)] (.int 0) := Arv.set Ar8 q8 Sz8 M8 H8 G8 (fits_nar_byte _) W8 0 rfl (wl rfl)
  have N8 := Fr.snoc X8 N0 g_a2
  have pre11 : Go p e bl T8 (mkF m 7 #[rv a1, iv 1, rv a2, iv 1, iv 5, iv 1, iv c0] [(.int 5), (.int 1)]) s1 EF := fun t k => pre9 t (by
   refine XS.iinc X8.here hx rfl (B d2_32) rfl (l' := #[rv a1, iv 1, rv a2, iv 0, iv 5, iv 0, iv c0]) rfl ?_
   refine XS.iinc X8.here hx rfl (B d2_35) rfl (l' := #[rv a1, iv 1, rv a2, iv 1, iv 5, iv 0, iv c0]) rfl ?_
   refine XS.iinc X8.here hx rfl (B d2_38) rfl (l' := #[rv a1, iv 1, rv a2, iv 1, iv 5, iv 1, iv c0]) rfl ?_
   refine XS.goto X8.here hx rfl (pc0 := 41) (pc' := 3) rfl (B d2_41) (by decide) (by decide) ?_
   refine XS.iload X8.here hx rfl (B d2_3) rfl ?_
   exact XS.iload X8.here hx rfl (B d2_5) rfl k)
  have pre12 : Go p e bl T8 (mkF m 10 #[rv a1, iv 1, rv a2, iv 1, iv 5, iv 1, iv c0] []) s1 EF := fun t k => pre11 t (XS.icmpNo X8.here hx rfl (B d2_7) rfl (tlt (by decide : (1 : Int32) < (5 : Int32))).2.1 k)
  have pre13 : Go p e bl T8 (mkF m 12 #[rv a1, iv 1, rv a2, iv 1, iv 5, iv 1, iv c0] [(.int 1), (.ref a1)]) s1 EF := fun t k => pre12 t (by
   refine XS.aloadN X8.here hx rfl (B d2_10) rfl rfl ?_
   exact XS.iloadN X8.here hx rfl (B d2_11) rfl k)
  obtain ⟨cl14, Ar14, q14, Sz14, M14, H14, G14⟩ := id (V1.other W8 ne12)
  have hin14 := inb_of (j := (1 : Int32)) Sz14 ⟨by decide, by decide⟩
  have hat14 := Has.at (v := (.int c1)) H14 hin14 rfl
  have pre15 : Go p e bl T8 (mkF m 20 #[rv a1, iv 1, rv a2, iv 1, iv 5, iv 1, iv c1] [(.int 255), (.int c1)]) s1 EF := fun t k => pre13 t (by
   refine X8.caload hx (j := 1) (v := (.int c1)) (hp e8 Ar14) (State.isArrayOf_alike hZ.alike Ar14.2.1) Ar14.2.2 hin14 hat14 (g := (mkF m 12 #[rv a1, iv 1, rv a2, iv 1, iv 5, iv 1, iv c0] [(.int 1), (.ref a1)])) rfl rfl (B d2_12) _ ?_
   refine XS.istore X8.here hx rfl (B d2_13) rfl (l' := #[rv a1, iv 1, rv a2, iv 1, iv 5, iv 1, iv c1]) rfl ?_
   refine XS.iload X8.here hx rfl (B d2_15) rfl ?_
   exact XS.sipush X8.here hx rfl (B d2_17) k)
  have pre16 : Go p e bl T8 (mkF m 26 #[rv a1, iv 1, rv a2, iv 1, iv 5, iv 1, iv c1] []) s1 EF := fun t k => pre15 t (XS.icmpYes X8.here hx rfl (pc0 := 20) (pc' := 26) rfl (B d2_20) rfl (flt (hle c1 (mg 1 rfl))).2.2.2 (by decide) (by decide) k)
  have pre17 : Go p e bl T8 (mkF m 31 #[rv a1, iv 1, rv a2, iv 1, iv 5, iv 1, iv c1] [(.int (c1.toInt8.toInt32)), (.int 1), (.ref a2)]) s1 EF := fun t k => pre16 t (by
   refine XS.aloadN X8.here hx rfl (B d2_26) rfl rfl ?_
   refine XS.iloadN X8.here hx rfl (B d2_27) rfl ?_
   refine XS.iload X8.here hx rfl (B d2_28) rfl ?_
   exact XS.i2b X8.here hx rfl (B d2_30) rfl k)
  obtain ⟨cl18, Ar18, q18, Sz18, M18, H18, G18⟩ := id V8
  have hin18 := inb_of (j := (1 : Int32)) Sz18 ⟨by decide, by decide⟩
  obtain ⟨T18, h18, X18, e18, W18, st18⟩ := stB X8 hx hZ e8 Ar18 (j := 1) hin18 (g := (mkF m 31 #[rv a1, iv 1, rv a2, iv 1, iv 5, iv 1, iv c1] [(.int (c1.toInt8.toInt32)), (.int 1), (.ref a2)])) rfl rfl (B d2_31)
  rw [own_i2b2] at W18
  have pre19 : Go p e bl T18 (mkF m 32 #[rv a1, iv 1, rv a2, iv 1, iv 5, iv 1, iv c1] []) s1 EF := fun t k => pre17 t (st18 t k)
  have O20 : Old Z n0 h18 := O10.wr W18 g_a2
  have Z20 : n0 ≤ h18.size := Nat.le_trans Z10 (Keep.of_wr W18).1
  have K20 : Keep h0 h18 [a2] := K10.wr W18 (Or.inl (mg 0 rfl))
  have V18 : Arv Z h18 a2 k2 .byte (5 : Int32) [(.int (c0.toInt8.toInt32)), (.int (c1.toInt8.toInt32)), (.int 0), (.int 0), (.int 0)] (.int 0) := Arv.set Ar18 q18 Sz18 M18 H18 G18 (fits_nar_byte _) W18 1 rfl (wl rfl)
  have N18 := Fr.snoc X18 N8 g_a2
  have pre21 : Go p e bl T18 (mkF m 7 #[rv a1, iv 2, rv a2, iv 2, iv 5, iv 2, iv c1] [(.int 5), (.int 2)]) s1 EF := fun t k => pre19 t (by
   refine XS.iinc X18.here hx rfl (B d2_32) rfl (l' := #[rv a1, iv 2, rv a2, iv 1, iv 5, iv 1, iv c1]) rfl ?_
   refine XS.iinc X18.here hx rfl (B d2_35) rfl (l' := #[rv a1, iv 2, rv a2, iv 2, iv 5, iv 1, iv c1]) rfl ?_
   refine XS.iinc X18.here hx rfl (B d2_38) rfl (l' := #[rv a1, iv 2, rv a2, iv 2, iv 5, iv 2, iv c1]) rfl ?_
   refine XS.goto X18.here hx rfl (pc0 := 41) (pc' := 3) rfl (B d2_41) (by decide) (by decide) ?_
   refine XS.iload X18.here hx rfl (B d2_3) rfl ?_
   exact XS.iload X18.here hx rfl (B d2_5) rfl k)
  have pre22 : Go p e bl T18 (mkF m 10 #[rv a1, iv 2, rv a2, iv 2, iv 5, iv 2, iv c1] []) s1 EF := fun t k => pre21 t (XS.icmpNo X18.here hx rfl (B d2_7) rfl (tlt (by decide : (2 : Int32) < (5 : Int32))).2.1 k)
  have pre23 : Go p e bl T18 (mkF m 12 #[rv a1, iv 2, rv a2, iv 2, iv 5, iv 2, iv c1] [(.int 2), (.ref a1)]) s1 EF := fun t k => pre22 t (by
   refine XS.aloadN X18.here hx rfl (B d2_10) rfl rfl ?_
   exact XS.iloadN X18.here hx rfl (B d2_11) rfl k)
  obtain ⟨cl24, Ar24, q24, Sz24, M24, H24, G24⟩ := id ((V1.other W8 ne12).other W18 ne12)
  have hin24 := inb_of (j := (2 : Int32)) Sz24 ⟨by decide, by decide⟩
  have hat24 := Has.at (v := (.int c2)) H24 hin24 rfl
  have pre25 : Go p e bl T18 (mkF m 20 #[rv a1, iv 2, rv a2, iv 2, iv 5, iv 2, iv c2] [(.int 255), (.int c2)]) s1 EF := fun t k => pre23 t (by
   refine X18.caload hx (j := 2) (v := (.int c2)) (hp e18 Ar24) (State.isArrayOf_alike hZ.alike Ar24.2.1) Ar24.2.2 hin24 hat24 (g := (mkF m 12 #[rv a1, iv 2, rv a2, iv 2, iv 5, iv 2, iv c1] [(.int 2), (.ref a1)])) rfl rfl (B d2_12) _ ?_
   refine XS.istore X18.here hx rfl (B d2_13) rfl (l' := #[rv a1, iv 2, rv a2, iv 2, iv 5, iv 2, iv c2]) rfl ?_
   refine XS.iload X18.here hx rfl (B d2_15) rfl ?_
   exact XS.sipush X18.here hx rfl (B d2_17) k)
  have pre26 : Go p e bl T18 (mkF m 26 #[rv a1, iv 2, rv a2, iv 2, iv 5, iv 2, iv c2] []) s1 EF := fun t k => pre25 t (XS.icmpYes X18.here hx rfl (pc0 := 20) (pc' := 26) rfl (B d2_20) rfl (flt (hle c2 (mg 2 rfl))).2.2.2 (by decide) (by decide) k)
  have pre27 : Go p e bl T18 (mkF m 31 #[rv a1, iv 2, rv a2, iv 2, iv 5, iv 2, iv c2] [(.int (c2.toInt8.toInt32)), (.int 2), (.ref a2)]) s1 EF := fun t k => pre26 t (by
   refine XS.aloadN X18.here hx rfl (B d2_26) rfl rfl ?_
   refine XS.iloadN X18.here hx rfl (B d2_27) rfl ?_
   refine XS.iload X18.here hx rfl (B d2_28) rfl ?_
   exact XS.i2b X18.here hx rfl (B d2_30) rfl k)
  obtain ⟨cl28, Ar28, q28, Sz28, M28, H28, G28⟩ := id V18
  have hin28 := inb_of (j := (2 : Int32)) Sz28 ⟨by decide, by decide⟩
  obtain ⟨T28, h28, X28, e28, W28, st28⟩ := stB X18 hx hZ e18 Ar28 (j := 2) hin28 (g := (mkF m 31 #[rv a1, iv 2, rv a2, iv 2, iv 5, iv 2, iv c2] [(.int (c2.toInt8.toInt32)), (.int 2), (.ref a2)])) rfl rfl (B d2_31)
  rw [own_i2b2] at W28
  have pre29 : Go p e bl T28 (mkF m 32 #[rv a1, iv 2, rv a2, iv 2, iv 5, iv 2, iv c2] []) s1 EF := fun t k => pre27 t (st28 t k)
  have O30 : Old Z n0 h28 := O20.wr W28 g_a2
  have Z30 : n0 ≤ h28.size := Nat.le_trans Z20 (Keep.of_wr W28).1
  have K30 : Keep h0 h28 [a2] := K20.wr W28 (Or.inl (mg 0 rfl))
  have V28 : Arv Z h28 a2 k2 .byte (5 : Int32) [(.int (c0.toInt8.toInt32)), (.int (c1.toInt8.toInt32)), (.int (c2.toInt8.toInt32)), (.int 0), (.int 0)] (.int 0) := Arv.set Ar28 q28 Sz28 M28 H28 G28 (fits_nar_byte _) W28 2 rfl (wl rfl)
  have N28 := Fr.snoc X28 N18 g_a2
  have pre31 : Go p e bl T28 (mkF m 7 #[rv a1, iv 3, rv a2, iv 3, iv 5, iv 3, iv c2] [(.int 5), (.int 3)]) s1 EF := fun t k => pre29 t (by
   refine XS.iinc X28.here hx rfl (B d2_32) rfl (l' := #[rv a1, iv 3, rv a2, iv 2, iv 5, iv 2, iv c2]) rfl ?_
   refine XS.iinc X28.here hx rfl (B d2_35) rfl (l' := #[rv a1, iv 3, rv a2, iv 3, iv 5, iv 2, iv c2]) rfl ?_
   refine XS.iinc X28.here hx rfl (B d2_38) rfl (l' := #[rv a1, iv 3, rv a2, iv 3, iv 5, iv 3, iv c2]) rfl ?_
   refine XS.goto X28.here hx rfl (pc0 := 41) (pc' := 3) rfl (B d2_41) (by decide) (by decide) ?_
   refine XS.iload X28.here hx rfl (B d2_3) rfl ?_
   exact XS.iload X28.here hx rfl (B d2_5) rfl k)
  have pre32 : Go p e bl T28 (mkF m 10 #[rv a1, iv 3, rv a2, iv 3, iv 5, iv 3, iv c2] []) s1 EF := fun t k => pre31 t (XS.icmpNo X28.here hx rfl (B d2_7) rfl (tlt (by decide : (3 : Int32) < (5 : Int32))).2.1 k)
  have pre33 : Go p e bl T28 (mkF m 12 #[rv a1, iv 3, rv a2, iv 3, iv 5, iv 3, iv c2] [(.int 3), (.ref a1)]) s1 EF := fun t k => pre32 t (by
   refine XS.aloadN X28.here hx rfl (B d2_10) rfl rfl ?_
   exact XS.iloadN X28.here hx rfl (B d2_11) rfl k)
  obtain ⟨cl34, Ar34, q34, Sz34, M34, H34, G34⟩ := id (((V1.other W8 ne12).other W18 ne12).other W28 ne12)
  have hin34 := inb_of (j := (3 : Int32)) Sz34 ⟨by decide, by decide⟩
  have hat34 := Has.at (v := (.int c3)) H34 hin34 rfl
  have pre35 : Go p e bl T28 (mkF m 20 #[rv a1, iv 3, rv a2, iv 3, iv 5, iv 3, iv c3] [(.int 255), (.int c3)]) s1 EF := fun t k => pre33 t (by
   refine X28.caload hx (j := 3) (v := (.int c3)) (hp e28 Ar34) (State.isArrayOf_alike hZ.alike Ar34.2.1) Ar34.2.2 hin34 hat34 (g := (mkF m 12 #[rv a1, iv 3, rv a2, iv 3, iv 5, iv 3, iv c2] [(.int 3), (.ref a1)])) rfl rfl (B d2_12) _ ?_
   refine XS.istore X28.here hx rfl (B d2_13) rfl (l' := #[rv a1, iv 3, rv a2, iv 3, iv 5, iv 3, iv c3]) rfl ?_
   refine XS.iload X28.here hx rfl (B d2_15) rfl ?_
   exact XS.sipush X28.here hx rfl (B d2_17) k)
  have pre36 : Go p e bl T28 (mkF m 26 #[rv a1, iv 3, rv a2, iv 3, iv 5, iv 3, iv c3] []) s1 EF := fun t k => pre35 t (XS.icmpYes X28.here hx rfl (pc0 := 20) (pc' := 26) rfl (B d2_20) rfl (flt (hle c3 (mg 3 rfl))).2.2.2 (by decide) (by decide) k)
  have pre37 : Go p e bl T28 (mkF m 31 #[rv a1, iv 3, rv a2, iv 3, iv 5, iv 3, iv c3] [(.int (c3.toInt8.toInt32)), (.int 3), (.ref a2)]) s1 EF := fun t k => pre36 t (by
   refine XS.aloadN X28.here hx rfl (B d2_26) rfl rfl ?_
   refine XS.iloadN X28.here hx rfl (B d2_27) rfl ?_
   refine XS.iload X28.here hx rfl (B d2_28) rfl ?_
   exact XS.i2b X28.here hx rfl (B d2_30) rfl k)
  obtain ⟨cl38, Ar38, q38, Sz38, M38, H38, G38⟩ := id V28
  have hin38 := inb_of (j := (3 : Int32)) Sz38 ⟨by decide, by decide⟩
  obtain ⟨T38, h38, X38, e38, W38, st38⟩ := stB X28 hx hZ e28 Ar38 (j := 3) hin38 (g := (mkF m 31 #[rv a1, iv 3, rv a2, iv 3, iv 5, iv 3, iv c3] [(.int (c3.toInt8.toInt32)), (.int 3), (.ref a2)])) rfl rfl (B d2_31)
  rw [own_i2b2] at W38
  have pre39 : Go p e bl T38 (mkF m 32 #[rv a1, iv 3, rv a2, iv 3, iv 5, iv 3, iv c3] []) s1 EF := fun t k => pre37 t (st38 t k)
  have O40 : Old Z n0 h38 := O30.wr W38 g_a2
  have Z40 : n0 ≤ h38.size := Nat.le_trans Z30 (Keep.of_wr W38).1
  have K40 : Keep h0 h38 [a2] := K30.wr W38 (Or.inl (mg 0 rfl))
  have V38 : Arv Z h38 a2 k2 .byte (5 : Int32) [(.int (c0.toInt8.toInt32)), (.int (c1.toInt8.toInt32)), (.int (c2.toInt8.toInt32)), (.int (c3.toInt8.toInt32)), (.int 0)] (.int 0) := Arv.set Ar38 q38 Sz38 M38 H38 G38 (fits_nar_byte _) W38 3 rfl (wl rfl)
  have N38 := Fr.snoc X38 N28 g_a2
  have pre41 : Go p e bl T38 (mkF m 7 #[rv a1, iv 4, rv a2, iv 4, iv 5, iv 4, iv c3] [(.int 5), (.int 4)]) s1 EF := fun t k => pre39 t (by
   refine XS.iinc X38.here hx rfl (B d2_32) rfl (l' := #[rv a1, iv 4, rv a2, iv 3, iv 5, iv 3, iv c3]) rfl ?_
   refine XS.iinc X38.here hx rfl (B d2_35) rfl (l' := #[rv a1, iv 4, rv a2, iv 4, iv 5, iv 3, iv c3]) rfl ?_
   refine XS.iinc X38.here hx rfl (B d2_38) rfl (l' := #[rv a1, iv 4, rv a2, iv 4, iv 5, iv 4, iv c3]) rfl ?_
   refine XS.goto X38.here hx rfl (pc0 := 41) (pc' := 3) rfl (B d2_41) (by decide) (by decide) ?_
   refine XS.iload X38.here hx rfl (B d2_3) rfl ?_
   exact XS.iload X38.here hx rfl (B d2_5) rfl k)
  have pre42 : Go p e bl T38 (mkF m 10 #[rv a1, iv 4, rv a2, iv 4, iv 5, iv 4, iv c3] []) s1 EF := fun t k => pre41 t (XS.icmpNo X38.here hx rfl (B d2_7) rfl (tlt (by decide : (4 : Int32) < (5 : Int32))).2.1 k)
  have pre43 : Go p e bl T38 (mkF m 12 #[rv a1, iv 4, rv a2, iv 4, iv 5, iv 4, iv c3] [(.int 4), (.ref a1)]) s1 EF := fun t k => pre42 t (by
   refine XS.aloadN X38.here hx rfl (B d2_10) rfl rfl ?_
   exact XS.iloadN X38.here hx rfl (B d2_11) rfl k)
  obtain ⟨cl44, Ar44, q44, Sz44, M44, H44, G44⟩ := id ((((V1.other W8 ne12).other W18 ne12).other W28 ne12).other W38 ne12)
  have hin44 := inb_of (j := (4 : Int32)) Sz44 ⟨by decide, by decide⟩
  have hat44 := Has.at (v := (.int c4)) H44 hin44 rfl
  have pre45 : Go p e bl T38 (mkF m 20 #[rv a1, iv 4, rv a2, iv 4, iv 5, iv 4, iv c4] [(.int 255), (.int c4)]) s1 EF := fun t k => pre43 t (by
   refine X38.caload hx (j := 4) (v := (.int c4)) (hp e38 Ar44) (State.isArrayOf_alike hZ.alike Ar44.2.1) Ar44.2.2 hin44 hat44 (g := (mkF m 12 #[rv a1, iv 4, rv a2, iv 4, iv 5, iv 4, iv c3] [(.int 4), (.ref a1)])) rfl rfl (B d2_12) _ ?_
   refine XS.istore X38.here hx rfl (B d2_13) rfl (l' := #[rv a1, iv 4, rv a2, iv 4, iv 5, iv 4, iv c4]) rfl ?_
   refine XS.iload X38.here hx rfl (B d2_15) rfl ?_
   exact XS.sipush X38.here hx rfl (B d2_17) k)
  have pre46 : Go p e bl T38 (mkF m 26 #[rv a1, iv 4, rv a2, iv 4, iv 5, iv 4, iv c4] []) s1 EF := fun t k => pre45 t (XS.icmpYes X38.here hx rfl (pc0 := 20) (pc' := 26) rfl (B d2_20) rfl (flt (hle c4 (mg 4 rfl))).2.2.2 (by decide) (by decide) k)
  have pre47 : Go p e bl T38 (mkF m 31 #[rv a1, iv 4, rv a2, iv 4, iv 5, iv 4, iv c4] [(.int (c4.toInt8.toInt32)), (.int 4), (.ref a2)]) s1 EF := fun t k => pre46 t (by
   refine XS.aloadN X38.here hx rfl (B d2_26) rfl rfl ?_
   refine XS.iloadN X38.here hx rfl (B d2_27) rfl ?_
   refine XS.iload X38.here hx rfl (B d2_28) rfl ?_
   exact XS.i2b X38.here hx rfl (B d2_30) rfl k)
  obtain ⟨cl48, Ar48, q48, Sz48, M48, H48, G48⟩ := id V38
  have hin48 := inb_of (j := (4 : Int32)) Sz48 ⟨by decide, by decide⟩
  obtain ⟨T48, h48, X48, e48, W48, st48⟩ := stB X38 hx hZ e38 Ar48 (j := 4) hin48 (g := (mkF m 31 #[rv a1, iv 4, rv a2, iv 4, iv 5, iv 4, iv c4] [(.int (c4.toInt8.toInt32)), (.int 4), (.ref a2)])) rfl rfl (B d2_31)
  rw [own_i2b2] at W48
  have pre49 : Go p e bl T48 (mkF m 32 #[rv a1, iv 4, rv a2, iv 4, iv 5, iv 4, iv c4] []) s1 EF := fun t k => pre47 t (st48 t k)
  have O50 : Old Z n0 h48 := O40.wr W48 g_a2
  have Z50 : n0 ≤ h48.size := Nat.le_trans Z40 (Keep.of_wr W48).1
  have K50 : Keep h0 h48 [a2] := K40.wr W48 (Or.inl (mg 0 rfl))
  have V48 : Arv Z h48 a2 k2 .byte (5 : Int32) [(.int (c0.toInt8.toInt32)), (.int (c1.toInt8.toInt32)), (.int (c2.toInt8.toInt32)), (.int (c3.toInt8.toInt32)), (.int (c4.toInt8.toInt32))] (.int 0) := Arv.set Ar48 q48 Sz48 M48 H48 G48 (fits_nar_byte _) W48 4 rfl (wl rfl)
  have N48 := Fr.snoc X48 N38 g_a2
  have pre51 : Go p e bl T48 (mkF m 7 #[rv a1, iv 5, rv a2, iv 5, iv 5, iv 5, iv c4] [(.int 5), (.int 5)]) s1 EF := fun t k => pre49 t (by
   refine XS.iinc X48.here hx rfl (B d2_32) rfl (l' := #[rv a1, iv 5, rv a2, iv 4, iv 5, iv 4, iv c4]) rfl ?_
   refine XS.iinc X48.here hx rfl (B d2_35) rfl (l' := #[rv a1, iv 5, rv a2, iv 5, iv 5, iv 4, iv c4]) rfl ?_
   refine XS.iinc X48.here hx rfl (B d2_38) rfl (l' := #[rv a1, iv 5, rv a2, iv 5, iv 5, iv 5, iv c4]) rfl ?_
   refine XS.goto X48.here hx rfl (pc0 := 41) (pc' := 3) rfl (B d2_41) (by decide) (by decide) ?_
   refine XS.iload X48.here hx rfl (B d2_3) rfl ?_
   exact XS.iload X48.here hx rfl (B d2_5) rfl k)
  have pre52 : Go p e bl T48 (mkF m 44 #[rv a1, iv 5, rv a2, iv 5, iv 5, iv 5, iv c4] []) s1 EF := fun t k => pre51 t (XS.icmpYes X48.here hx rfl (pc0 := 7) (pc' := 44) rfl (B d2_7) rfl (flt (by decide : ¬ ((5 : Int32) < (5 : Int32)))).2.1 (by decide) (by decide) k)
  have pre53 : Go p e bl T48 (mkF m 46 #[rv a1, iv 5, rv a2, iv 5, iv 5, iv 5, iv c4] [(.int 5)]) s1 EF := fun t k => pre52 t (by
   exact XS.iload X48.here hx rfl (B d2_44) rfl k)
  exact fin1 X48 (v := some (.int 5)) hrt hlk (wl rfl) (wl rfl) (by rw [e48]; exact ⟨rfl, N48, K50, V48⟩) (fun fs hr => hEF ▸ pre53 _ (retOut X48 hx Bd.returns rfl (Or.inl ⟨rfl, Or.inl rfl, _, rfl⟩) (B d2_46) hr))
abbrev rKKb5 : Room := { frames := 1, cells := 1, slots := 10, locals := 18 }
theorem efKb5 (m : MethodId) (a1 : Addr) : entryFrame m #[(.ref a1), (.int 0), (.int 5)] 6 = mkF m 0 #[rv a1, iv 0, iv 5, .unset, .unset, .unset] [] := by first | (simp [entryFrame, mkF, argsToLocals, Value.category]; done) | rfl
def QKb5 (Z : State) (a1 : Addr) (cz : Int32) (fv : Value) (k1 : ClassId) (c0 : Int32) (c1 : Int32) (c2 : Int32) (c3 : Int32) (c4 : Int32) (h0 : Heap) (n0 : Nat) (v : Option Value) (h : Heap) (L : List Loc) : Prop := ∃ b k, v = some (.ref b) ∧ Fr n0 L ∧ Keep h0 h [] ∧ h0.size ≤ b ∧ Arv Z h b k .byte (5 : Int32) [(.int (c0.toInt8.toInt32)), (.int (c1.toInt8.toInt32)), (.int (c2.toInt8.toInt32)), (.int (c3.toInt8.toInt32)), (.int (c4.toInt8.toInt32))] (.int 0)
set_option maxRecDepth 65536 in
set_option maxHeartbeats 40000000 in
theorem rmKb5 (l : Launch) (Z : State) (a0 : Array Value) (hw : HW a0 Z) (ws : List Jvm.Cond) (a1 : Addr) (cz : Int32) (fv : Value) (k1 : ClassId) (c0 : Int32) (c1 : Int32) (c2 : Int32) (c3 : Int32) (c4 : Int32) (h0 : Heap) (n0 : Nat) (Z0 : n0 ≤ h0.size) (O0 : Old Z n0 h0) (J0 : Jd Z cz fv) (V1 : Arv Z h0 a1 k1 .char (5 : Int32) [(.int c0), (.int c1), (.int c2), (.int c3), (.int c4)] (.int 0)) (hle : (∀ c ∈ [c0, c1, c2, c3, c4], ¬ (255 : Int32) < c)) :
    MF l Z mN3 jdk_52_method_16_code 6 (some (.array .byte)) ws rKKb5 #[(.ref a1), (.int 0), (.int 5)] h0 (QKb5 Z a1 cz fv k1 c0 c1 c2 c3 c4 h0 n0) := by
  refine MetFree.of_bodySF (plainFor_of_name pn2) hisR ?_
  intro p e s m args bl meth c s1 Bd hml0 hP hK
  obtain ⟨rfl, hZ, hh⟩ := hP
  have hx := Bd.exec
  have hby := Bd.bytes
  have B := @hb c _ hby
  have hM := fun {n : Nat} (h : n = 6) => h.trans hml0.symm
  have hown : s.vm.findClass "java/lang/StringUTF16" = some m.cls := findClass_of_methodNamed Bd.named
  have hlk : meth.locks = false := BodyLoose.notSynchronized Bd
  have hrt : ∀ {v : Option Value}, meth.sig.returnType = none → v = none := fun h => by rw [Bd.returns] at h; cases h
  have X0 : Stand p l e rKKb5 s m #[(.ref a1), (.int 0), (.int 5)] bl meth c s1 [] 0 0 := Stand.of_body Bd
  have e0 : s1.heap = h0 := by rw [← hh, Bd.state]; rfl
  have N0 := Fr.nil n0
  obtain ⟨EF, hEF⟩ : ∃ f, f = entryFrame m #[(.ref a1), (.int 0), (.int 5)] 6 := ⟨_, rfl⟩
  have pre0 : Go p e bl s1 (mkF m 0 #[rv a1, iv 0, iv 5, .unset, .unset, .unset] []) s1 EF := fun t k => by rw [hEF]; exact castTop (efKb5 m a1) k
  have pre1 : Go p e bl s1 (mkF m 1 #[rv a1, iv 0, iv 5, .unset, .unset, .unset] [(.int 5)]) s1 EF := fun t k => pre0 t (by
   exact XS.iloadN X0.here hx rfl (B d3_0) rfl k)
  obtain ⟨T2, h2, k2, X2, e2, Et2, A2, st2⟩ := newP X0 hx hZ (hw _ (mW 23 rfl)) e0 (g := (mkF m 1 #[rv a1, iv 0, iv 5, .unset, .unset, .unset] [(.int 5)])) rfl (B d3_1) rfl (by decide) (cap := 5) (by decide) (by decide) (by decide) (by decide)
  obtain ⟨b2, g2⟩ : ∃ z, z = h0.size := ⟨_, rfl⟩
  rw [← g2] at A2 st2
  have g_b2 : n0 ≤ b2 := Nat.le_trans Z0 (Nat.le_of_eq g2.symm)
  have sz_b2 : h0.size ≤ b2 := Nat.le_trans (Keep.refl h0 []).1 (Nat.le_of_eq g2.symm)
  have ne_a1_b2 : a1 ≠ b2 := Nat.ne_of_lt (Nat.lt_of_lt_of_le V1.lt (Nat.le_of_eq g2.symm))
  have pre3 : Go p e bl T2 (mkF m 3 #[rv a1, iv 0, iv 5, .unset, .unset, .unset] [(.ref b2)]) s1 EF := fun t k => pre1 t (st2 t k)
  have O4 : Old Z n0 h2 := O0.ext Et2
  have Z4 : n0 ≤ h2.size := Nat.le_trans Z0 Et2.1
  have K4 : Keep h0 h2 [] := (Keep.refl h0 []).ext Et2
  have V2 : Arv Z h2 b2 k2 .byte (5 : Int32) [(.int 0), (.int 0), (.int 0), (.int 0), (.int 0)] (.int 0) := (Arv.new A2 (by decide)).pad (pad_rep [] (.int 0) 5)
  have pre5 : Go p e bl T2 (mkF m 9 #[rv a1, iv 0, iv 5, rv b2, .unset, .unset] [(.int 5), (.int 0), (.ref b2), (.int 0), (.ref a1)]) s1 EF := fun t k => pre3 t (by
   refine XS.astoreN X2.here hx rfl (B d3_3) rfl rfl (l' := #[rv a1, iv 0, iv 5, rv b2, .unset, .unset]) rfl ?_
   refine XS.aloadN X2.here hx rfl (B d3_4) rfl rfl ?_
   refine XS.iloadN X2.here hx rfl (B d3_5) rfl ?_
   refine XS.aloadN X2.here hx rfl (B d3_6) rfl rfl ?_
   refine XS.iconst X2.here hx rfl (B d3_7) ?_
   exact XS.iloadN X2.here hx rfl (B d3_8) rfl k)
  obtain ⟨_, _, ⟨T6, L6, k6, n6⟩, -, X6, ⟨Lc6, hQ6, l6, y6, z6⟩, st6⟩ := Jvm.LawKit.callS X2 hx (y := mN2) hown (mvT hZ (hw _ (mW 24 rfl))) (mvT hZ (hw _ (mW 25 rfl))) (mvT hZ (hw _ (mW 21 rfl))) (mvT hZ (hw _ (mW 26 rfl))) (by decide) (backOf (W := 0) (rmKa5 l Z a0 hw [] a1 b2 cz fv k1 k2 c0 c1 c2 c3 c4 h2 n0 Z4 O4 J0 (V1.ext Et2) V2 ne_a1_b2 g_b2 hle) hZ (hw _ (mW 26 rfl)) (hw _ (mW 21 rfl)) (by decide) (by decide)) (g := (mkF m 9 #[rv a1, iv 0, iv 5, rv b2, .unset, .unset] [(.int 5), (.int 0), (.ref b2), (.int 0), (.ref a1)])) rfl (hM rfl) (argsL := [(.ref a1), (.int 0), (.ref b2), (.int 0), (.int 5)]) (rest := []) (lenOf pd1 rfl) rfl (Nat.le_of_eq rfl) (B d3_9) (fun _ _ => ⟨rfl, e2, wl rfl, wl rfl⟩)
  dsimp only [Pt.U, Pt.locs, Pt.cells, Pt.slots] at X6 l6 y6 z6 st6 hQ6
  subst l6 y6 z6
  obtain ⟨rfl, N6q, K6, VL6⟩ := hQ6
  have N6 := Fr.app N0 N6q
  have pre7 : Go p e bl T6 (mkF m 12 #[rv a1, iv 0, iv 5, rv b2, .unset, .unset] [(.int 5)]) s1 EF := fun t k => pre5 t (st6 t k)
  have O8 : Old Z n0 T6.heap := O4.keep K6 (allS g_b2 all0)
  have Z8 : n0 ≤ T6.heap.size := Nat.le_trans Z4 K6.1
  have K8 : Keep h0 T6.heap [] := K4.trans K6 (allS (Or.inr sz_b2) all0)
  have pre9 : Go p e bl T6 (mkF m 17 #[rv a1, iv 0, iv 5, rv b2, iv 5, .unset] [(.int 5), (.int 5)]) s1 EF := fun t k => pre7 t (by
   refine XS.istore X6.here hx rfl (B d3_12) rfl (l' := #[rv a1, iv 0, iv 5, rv b2, iv 5, .unset]) rfl ?_
   refine XS.iload X6.here hx rfl (B d3_14) rfl ?_
   exact XS.iloadN X6.here hx rfl (B d3_16) rfl k)
  have pre10 : Go p e bl T6 (mkF m 57 #[rv a1, iv 0, iv 5, rv b2, iv 5, .unset] []) s1 EF := fun t k => pre9 t (XS.icmpYes X6.here hx rfl (pc0 := 17) (pc' := 57) rfl (B d3_17) rfl (teq (by decide : (5 : Int32) = (5 : Int32))).1 (by decide) (by decide) k)
  have pre11 : Go p e bl T6 (mkF m 58 #[rv a1, iv 0, iv 5, rv b2, iv 5, .unset] [(.ref b2)]) s1 EF := fun t k => pre10 t (by
   exact XS.aloadN X6.here hx rfl (B d3_57) rfl rfl k)
  exact fin1 X6 (v := some (.ref b2)) hrt hlk (wl rfl) (wl rfl) (by exact ⟨_, _, rfl, N6, K8, sz_b2, VL6⟩) (fun fs hr => hEF ▸ pre11 _ (retOut X6 hx Bd.returns rfl (Or.inr (Or.inr (Or.inr (Or.inr ⟨rfl, rfl, rfl⟩)))) (B d3_58) hr))
abbrev rKKa4 : Room := { frames := 0, cells := 0, slots := 0, locals := 0 }
theorem efKa4 (m : MethodId) (a1 : Addr) (a2 : Addr) : entryFrame m #[(.ref a1), (.int 0), (.ref a2), (.int 0), (.int 4)] 7 = mkF m 0 #[rv a1, iv 0, rv a2, iv 0, iv 4, .unset, .unset] [] := by first | (simp [entryFrame, mkF, argsToLocals, Value.category]; done) | rfl
def QKa4 (Z : State) (a1 : Addr) (a2 : Addr) (cz : Int32) (fv : Value) (k1 : ClassId) (k2 : ClassId) (c0 : Int32) (c1 : Int32) (c2 : Int32) (c3 : Int32) (h0 : Heap) (n0 : Nat) (v : Option Value) (h : Heap) (L : List Loc) : Prop := v = some (.int 4) ∧ Fr n0 L ∧ Keep h0 h [a2] ∧ Arv Z h a2 k2 .byte (4 : Int32) [(.int (c0.toInt8.toInt32)), (.int (c1.toInt8.toInt32)), (.int (c2.toInt8.toInt32)), (.int (c3.toInt8.toInt32))] (.int 0)
set_option maxRecDepth 65536 in
set_option maxHeartbeats 40000000 in
theorem rmKa4 (l : Launch) (Z : State) (a0 : Array Value) (hw : HW a0 Z) (ws : List Jvm.Cond) (a1 : Addr) (a2 : Addr) (cz : Int32) (fv : Value) (k1 : ClassId) (k2 : ClassId) (c0 : Int32) (c1 : Int32) (c2 : Int32) (c3 : Int32) (h0 : Heap) (n0 : Nat) (Z0 : n0 ≤ h0.size) (O0 : Old Z n0 h0) (J0 : Jd Z cz fv) (V1 : Arv Z h0 a1 k1 .char (4 : Int32) [(.int c0), (.int c1), (.int c2), (.int c3)] (.int 0)) (V2 : Arv Z h0 a2 k2 .byte (4 : Int32) [(.int 0), (.int 0), (.int 0), (.int 0)] (.int 0)) (ne12 : a1 ≠ a2) (g_a2 : n0 ≤ a2) (hle : (∀ c ∈ [c0, c1, c2, c3], ¬ (255 : Int32) < c)) :
    MF l Z mN2 jdk_52_method_21_code 7 (some .int) ws rKKa4 #[(.ref a1), (.int 0), (.ref a2), (.int 0), (.int 4)] h0 (QKa4 Z a1 a2 cz fv k1 k2 c0 c1 c2 c3 h0 n0) := by
  refine MetFree.of_bodySF (plainFor_of_name pn2) hisR ?_
  intro p e s m args bl meth c s1 Bd hml0 hP hK
  obtain ⟨rfl, hZ, hh⟩ := hP
  have hx := Bd.exec
  have hby := Bd.bytes
  have B := @hb c _ hby
  have hown : s.vm.findClass "java/lang/StringUTF16" = some m.cls := findClass_of_methodNamed Bd.named
  have hlk : meth.locks = false := BodyLoose.notSynchronized Bd
  have hrt : ∀ {v : Option Value}, meth.sig.returnType = none → v = none := fun h => by rw [Bd.returns] at h; cases h
  have X0 : Stand p l e rKKa4 s m #[(.ref a1), (.int 0), (.ref a2), (.int 0), (.int 4)] bl meth c s1 [] 0 0 := Stand.of_body Bd
  have e0 : s1.heap = h0 := by rw [← hh, Bd.state]; rfl
  have N0 := Fr.nil n0
  obtain ⟨EF, hEF⟩ : ∃ f, f = entryFrame m #[(.ref a1), (.int 0), (.ref a2), (.int 0), (.int 4)] 7 := ⟨_, rfl⟩
  have pre0 : Go p e bl s1 (mkF m 0 #[rv a1, iv 0, rv a2, iv 0, iv 4, .unset, .unset] []) s1 EF := fun t k => by rw [hEF]; exact castTop (efKa4 m a1 a2) k
  have pre1 : Go p e bl s1 (mkF m 7 #[rv a1, iv 0, rv a2, iv 0, iv 4, iv 0, .unset] [(.int 4), (.int 0)]) s1 EF := fun t k => pre0 t (by
   refine XS.iconst X0.here hx rfl (B d2_0) ?_
   refine XS.istore X0.here hx rfl (B d2_1) rfl (l' := #[rv a1, iv 0, rv a2, iv 0, iv 4, iv 0, .unset]) rfl ?_
   refine XS.iload X0.here hx rfl (B d2_3) rfl ?_
   exact XS.iload X0.here hx rfl (B d2_5) rfl k)
  have pre2 : Go p e bl s1 (mkF m 10 #[rv a1, iv 0, rv a2, iv 0, iv 4, iv 0, .unset] []) s1 EF := fun t k => pre1 t (XS.icmpNo X0.here hx rfl (B d2_7) rfl (tlt (by decide : (0 : Int32) < (4 : Int32))).2.1 k)
  have pre3 : Go p e bl s1 (mkF m 12 #[rv a1, iv 0, rv a2, iv 0, iv 4, iv 0, .unset] [(.int 0), (.ref a1)]) s1 EF := fun t k => pre2 t (by
   refine XS.aloadN X0.here hx rfl (B d2_10) rfl rfl ?_
   exact XS.iloadN X0.here hx rfl (B d2_11) rfl k)
  obtain ⟨cl4, Ar4, q4, Sz4, M4, H4, G4⟩ := id V1
  have hin4 := inb_of (j := (0 : Int32)) Sz4 ⟨by decide, by decide⟩
  have hat4 := Has.at (v := (.int c0)) H4 hin4 rfl
  have pre5 : Go p e bl s1 (mkF m 20 #[rv a1, iv 0, rv a2, iv 0, iv 4, iv 0, iv c0] [(.int 255), (.int c0)]) s1 EF := fun t k => pre3 t (by
   refine X0.caload hx (j := 0) (v := (.int c0)) (hp e0 Ar4) (State.isArrayOf_alike hZ.alike Ar4.2.1) Ar4.2.2 hin4 hat4 (g := (mkF m 12 #[rv a1, iv 0, rv a2, iv 0, iv 4, iv 0, .unset] [(.int 0), (.ref a1)])) rfl rfl (B d2_12) _ ?_
   refine XS.istore X0.here hx rfl (B d2_13) rfl (l' := #[rv a1, iv 0, rv a2, iv 0, iv 4, iv 0, iv c0]) rfl ?_
   refine XS.iload X0.here hx rfl (B d2_15) rfl ?_
   exact XS.sipush X0.here hx rfl (B d2_17) k)
  have pre6 : Go p e bl s1 (mkF m 26 #[rv a1, iv 0, rv a2, iv 0, iv 4, iv 0, iv c0] []) s1 EF := fun t k => pre5 t (XS.icmpYes X0.here hx rfl (pc0 := 20) (pc' := 26) rfl (B d2_20) rfl (flt (hle c0 (mg 0 rfl))).2.2.2 (by decide) (by decide) k)
  have pre7 : Go p e bl s1 (mkF m 31 #[rv a1, iv 0, rv a2, iv 0, iv 4, iv 0, iv c0] [(.int (c0.toInt8.toInt32)), (.int 0), (.ref a2)]) s1 EF := fun t k => pre6 t (by
   refine XS.aloadN X0.here hx rfl (B d2_26) rfl rfl ?_
   refine XS.iloadN X0.here hx rfl (B d2_27) rfl ?_
   refine XS.iload X0.here hx rfl (B d2_28) rfl ?_
   exact XS.i2b X0.here hx rfl (B d2_30) rfl k)
  obtain ⟨cl8, Ar8, q8, Sz8, M8, H8, G8⟩ := id V2
  have hin8 := inb_of (j := (0 : Int32)) Sz8 ⟨by decide, by decide⟩
  obtain ⟨T8, h8, X8, e8, W8, st8⟩ := stB X0 hx hZ e0 Ar8 (j := 0) hin8 (g := (mkF m 31 #[rv a1, iv 0, rv a2, iv 0, iv 4, iv 0, iv c0] [(.int (c0.toInt8.toInt32)), (.int 0), (.ref a2)])) rfl rfl (B d2_31)
  rw [own_i2b2] at W8
  have pre9 : Go p e bl T8 (mkF m 32 #[rv a1, iv 0, rv a2, iv 0, iv 4, iv 0, iv c0] []) s1 EF := fun t k => pre7 t (st8 t k)
  have O10 : Old Z n0 h8 := O0.wr W8 g_a2
  have Z10 : n0 ≤ h8.size := Nat.le_trans Z0 (Keep.of_wr W8).1
  have K10 : Keep h0 h8 [a2] := (Keep.refl h0 [a2]).wr W8 (Or.inl (mg 0 rfl))
  have V8 : Arv Z h8 a2 k2 .byte (4 : Int32) [(.int (c0.toInt8.toInt32)), (.int 0), (.int 0), (.int 0)] (.int 0) := Arv.set Ar8 q8 Sz8 M8 H8 G8 (fits_nar_byte _) W8 0 rfl (wl rfl)
  have N8 := Fr.snoc X8 N0 g_a2
  have pre11 : Go p e bl T8 (mkF m 7 #[rv a1, iv 1, rv a2, iv 1, iv 4, iv 1, iv c0] [(.int 4), (.int 1)]) s1 EF := fun t k => pre9 t (by
   refine XS.iinc X8.here hx rfl (B d2_32) rfl (l' := #[rv a1, iv 1, rv a2, iv 0, iv 4, iv 0, iv c0]) rfl ?_
   refine XS.iinc X8.here hx rfl (B d2_35) rfl (l' := #[rv a1, iv 1, rv a2, iv 1, iv 4, iv 0, iv c0]) rfl ?_
   refine XS.iinc X8.here hx rfl (B d2_38) rfl (l' := #[rv a1, iv 1, rv a2, iv 1, iv 4, iv 1, iv c0]) rfl ?_
   refine XS.goto X8.here hx rfl (pc0 := 41) (pc' := 3) rfl (B d2_41) (by decide) (by decide) ?_
   refine XS.iload X8.here hx rfl (B d2_3) rfl ?_
   exact XS.iload X8.here hx rfl (B d2_5) rfl k)
  have pre12 : Go p e bl T8 (mkF m 10 #[rv a1, iv 1, rv a2, iv 1, iv 4, iv 1, iv c0] []) s1 EF := fun t k => pre11 t (XS.icmpNo X8.here hx rfl (B d2_7) rfl (tlt (by decide : (1 : Int32) < (4 : Int32))).2.1 k)
  have pre13 : Go p e bl T8 (mkF m 12 #[rv a1, iv 1, rv a2, iv 1, iv 4, iv 1, iv c0] [(.int 1), (.ref a1)]) s1 EF := fun t k => pre12 t (by
   refine XS.aloadN X8.here hx rfl (B d2_10) rfl rfl ?_
   exact XS.iloadN X8.here hx rfl (B d2_11) rfl k)
  obtain ⟨cl14, Ar14, q14, Sz14, M14, H14, G14⟩ := id (V1.other W8 ne12)
  have hin14 := inb_of (j := (1 : Int32)) Sz14 ⟨by decide, by decide⟩
  have hat14 := Has.at (v := (.int c1)) H14 hin14 rfl
  have pre15 : Go p e bl T8 (mkF m 20 #[rv a1, iv 1, rv a2, iv 1, iv 4, iv 1, iv c1] [(.int 255), (.int c1)]) s1 EF := fun t k => pre13 t (by
   refine X8.caload hx (j := 1) (v := (.int c1)) (hp e8 Ar14) (State.isArrayOf_alike hZ.alike Ar14.2.1) Ar14.2.2 hin14 hat14 (g := (mkF m 12 #[rv a1, iv 1, rv a2, iv 1, iv 4, iv 1, iv c0] [(.int 1), (.ref a1)])) rfl rfl (B d2_12) _ ?_
   refine XS.istore X8.here hx rfl (B d2_13) rfl (l' := #[rv a1, iv 1, rv a2, iv 1, iv 4, iv 1, iv c1]) rfl ?_
   refine XS.iload X8.here hx rfl (B d2_15) rfl ?_
   exact XS.sipush X8.here hx rfl (B d2_17) k)
  have pre16 : Go p e bl T8 (mkF m 26 #[rv a1, iv 1, rv a2, iv 1, iv 4, iv 1, iv c1] []) s1 EF := fun t k => pre15 t (XS.icmpYes X8.here hx rfl (pc0 := 20) (pc' := 26) rfl (B d2_20) rfl (flt (hle c1 (mg 1 rfl))).2.2.2 (by decide) (by decide) k)
  have pre17 : Go p e bl T8 (mkF m 31 #[rv a1, iv 1, rv a2, iv 1, iv 4, iv 1, iv c1] [(.int (c1.toInt8.toInt32)), (.int 1), (.ref a2)]) s1 EF := fun t k => pre16 t (by
   refine XS.aloadN X8.here hx rfl (B d2_26) rfl rfl ?_
   refine XS.iloadN X8.here hx rfl (B d2_27) rfl ?_
   refine XS.iload X8.here hx rfl (B d2_28) rfl ?_
   exact XS.i2b X8.here hx rfl (B d2_30) rfl k)
  obtain ⟨cl18, Ar18, q18, Sz18, M18, H18, G18⟩ := id V8
  have hin18 := inb_of (j := (1 : Int32)) Sz18 ⟨by decide, by decide⟩
  obtain ⟨T18, h18, X18, e18, W18, st18⟩ := stB X8 hx hZ e8 Ar18 (j := 1) hin18 (g := (mkF m 31 #[rv a1, iv 1, rv a2, iv 1, iv 4, iv 1, iv c1] [(.int (c1.toInt8.toInt32)), (.int 1), (.ref a2)])) rfl rfl (B d2_31)
  rw [own_i2b2] at W18
  have pre19 : Go p e bl T18 (mkF m 32 #[rv a1, iv 1, rv a2, iv 1, iv 4, iv 1, iv c1] []) s1 EF := fun t k => pre17 t (st18 t k)
  have O20 : Old Z n0 h18 := O10.wr W18 g_a2
  have Z20 : n0 ≤ h18.size := Nat.le_trans Z10 (Keep.of_wr W18).1
  have K20 : Keep h0 h18 [a2] := K10.wr W18 (Or.inl (mg 0 rfl))
  have V18 : Arv Z h18 a2 k2 .byte (4 : Int32) [(.int (c0.toInt8.toInt32)), (.int (c1.toInt8.toInt32)), (.int 0), (.int 0)] (.int 0) := Arv.set Ar18 q18 Sz18 M18 H18 G18 (fits_nar_byte _) W18 1 rfl (wl rfl)
  have N18 := Fr.snoc X18 N8 g_a2
  have pre21 : Go p e bl T18 (mkF m 7 #[rv a1, iv 2, rv a2, iv 2, iv 4, iv 2, iv c1] [(.int 4), (.int 2)]) s1 EF := fun t k => pre19 t (by
   refine XS.iinc X18.here hx rfl (B d2_32) rfl (l' := #[rv a1, iv 2, rv a2, iv 1, iv 4, iv 1, iv c1]) rfl ?_
   refine XS.iinc X18.here hx rfl (B d2_35) rfl (l' := #[rv a1, iv 2, rv a2, iv 2, iv 4, iv 1, iv c1]) rfl ?_
   refine XS.iinc X18.here hx rfl (B d2_38) rfl (l' := #[rv a1, iv 2, rv a2, iv 2, iv 4, iv 2, iv c1]) rfl ?_
   refine XS.goto X18.here hx rfl (pc0 := 41) (pc' := 3) rfl (B d2_41) (by decide) (by decide) ?_
   refine XS.iload X18.here hx rfl (B d2_3) rfl ?_
   exact XS.iload X18.here hx rfl (B d2_5) rfl k)
  have pre22 : Go p e bl T18 (mkF m 10 #[rv a1, iv 2, rv a2, iv 2, iv 4, iv 2, iv c1] []) s1 EF := fun t k => pre21 t (XS.icmpNo X18.here hx rfl (B d2_7) rfl (tlt (by decide : (2 : Int32) < (4 : Int32))).2.1 k)
  have pre23 : Go p e bl T18 (mkF m 12 #[rv a1, iv 2, rv a2, iv 2, iv 4, iv 2, iv c1] [(.int 2), (.ref a1)]) s1 EF := fun t k => pre22 t (by
   refine XS.aloadN X18.here hx rfl (B d2_10) rfl rfl ?_
   exact XS.iloadN X18.here hx rfl (B d2_11) rfl k)
  obtain ⟨cl24, Ar24, q24, Sz24, M24, H24, G24⟩ := id ((V1.other W8 ne12).other W18 ne12)
  have hin24 := inb_of (j := (2 : Int32)) Sz24 ⟨by decide, by decide⟩
  have hat24 := Has.at (v := (.int c2)) H24 hin24 rfl
  have pre25 : Go p e bl T18 (mkF m 20 #[rv a1, iv 2, rv a2, iv 2, iv 4, iv 2, iv c2] [(.int 255), (.int c2)]) s1 EF := fun t k => pre23 t (by
   refine X18.caload hx (j := 2) (v := (.int c2)) (hp e18 Ar24) (State.isArrayOf_alike hZ.alike Ar24.2.1) Ar24.2.2 hin24 hat24 (g := (mkF m 12 #[rv a1, iv 2, rv a2, iv 2, iv 4, iv 2, iv c1] [(.int 2), (.ref a1)])) rfl rfl (B d2_12) _ ?_
   refine XS.istore X18.here hx rfl (B d2_13) rfl (l' := #[rv a1, iv 2, rv a2, iv 2, iv 4, iv 2, iv c2]) rfl ?_
   refine XS.iload X18.here hx rfl (B d2_15) rfl ?_
   exact XS.sipush X18.here hx rfl (B d2_17) k)
  have pre26 : Go p e bl T18 (mkF m 26 #[rv a1, iv 2, rv a2, iv 2, iv 4, iv 2, iv c2] []) s1 EF := fun t k => pre25 t (XS.icmpYes X18.here hx rfl (pc0 := 20) (pc' := 26) rfl (B d2_20) rfl (flt (hle c2 (mg 2 rfl))).2.2.2 (by decide) (by decide) k)
  have pre27 : Go p e bl T18 (mkF m 31 #[rv a1, iv 2, rv a2, iv 2, iv 4, iv 2, iv c2] [(.int (c2.toInt8.toInt32)), (.int 2), (.ref a2)]) s1 EF := fun t k => pre26 t (by
   refine XS.aloadN X18.here hx rfl (B d2_26) rfl rfl ?_
   refine XS.iloadN X18.here hx rfl (B d2_27) rfl ?_
   refine XS.iload X18.here hx rfl (B d2_28) rfl ?_
   exact XS.i2b X18.here hx rfl (B d2_30) rfl k)
  obtain ⟨cl28, Ar28, q28, Sz28, M28, H28, G28⟩ := id V18
  have hin28 := inb_of (j := (2 : Int32)) Sz28 ⟨by decide, by decide⟩
  obtain ⟨T28, h28, X28, e28, W28, st28⟩ := stB X18 hx hZ e18 Ar28 (j := 2) hin28 (g := (mkF m 31 #[rv a1, iv 2, rv a2, iv 2, iv 4, iv 2, iv c2] [(.int (c2.toInt8.toInt32)), (.int 2), (.ref a2)])) rfl rfl (B d2_31)
  rw [own_i2b2] at W28
  have pre29 : Go p e bl T28 (mkF m 32 #[rv a1, iv 2, rv a2, iv 2, iv 4, iv 2, iv c2] []) s1 EF := fun t k => pre27 t (st28 t k)
  have O30 : Old Z n0 h28 := O20.wr W28 g_a2
  have Z30 : n0 ≤ h28.size := Nat.le_trans Z20 (Keep.of_wr W28).1
  have K30 : Keep h0 h28 [a2] := K20.wr W28 (Or.inl (mg 0 rfl))
  have V28 : Arv Z h28 a2 k2 .byte (4 : Int32) [(.int (c0.toInt8.toInt32)), (.int (c1.toInt8.toInt32)), (.int (c2.toInt8.toInt32)), (.int 0)] (.int 0) := Arv.set Ar28 q28 Sz28 M28 H28 G28 (fits_nar_byte _) W28 2 rfl (wl rfl)
  have N28 := Fr.snoc X28 N18 g_a2
  have pre31 : Go p e bl T28 (mkF m 7 #[rv a1, iv 3, rv a2, iv 3, iv 4, iv 3, iv c2] [(.int 4), (.int 3)]) s1 EF := fun t k => pre29 t (by
   refine XS.iinc X28.here hx rfl (B d2_32) rfl (l' := #[rv a1, iv 3, rv a2, iv 2, iv 4, iv 2, iv c2]) rfl ?_
   refine XS.iinc X28.here hx rfl (B d2_35) rfl (l' := #[rv a1, iv 3, rv a2, iv 3, iv 4, iv 2, iv c2]) rfl ?_
   refine XS.iinc X28.here hx rfl (B d2_38) rfl (l' := #[rv a1, iv 3, rv a2, iv 3, iv 4, iv 3, iv c2]) rfl ?_
   refine XS.goto X28.here hx rfl (pc0 := 41) (pc' := 3) rfl (B d2_41) (by decide) (by decide) ?_
   refine XS.iload X28.here hx rfl (B d2_3) rfl ?_
   exact XS.iload X28.here hx rfl (B d2_5) rfl k)
  have pre32 : Go p e bl T28 (mkF m 10 #[rv a1, iv 3, rv a2, iv 3, iv 4, iv 3, iv c2] []) s1 EF := fun t k => pre31 t (XS.icmpNo X28.here hx rfl (B d2_7) rfl (tlt (by decide : (3 : Int32) < (4 : Int32))).2.1 k)
  have pre33 : Go p e bl T28 (mkF m 12 #[rv a1, iv 3, rv a2, iv 3, iv 4, iv 3, iv c2] [(.int 3), (.ref a1)]) s1 EF := fun t k => pre32 t (by
   refine XS.aloadN X28.here hx rfl (B d2_10) rfl rfl ?_
   exact XS.iloadN X28.here hx rfl (B d2_11) rfl k)
  obtain ⟨cl34, Ar34, q34, Sz34, M34, H34, G34⟩ := id (((V1.other W8 ne12).other W18 ne12).other W28 ne12)
  have hin34 := inb_of (j := (3 : Int32)) Sz34 ⟨by decide, by decide⟩
  have hat34 := Has.at (v := (.int c3)) H34 hin34 rfl
  have pre35 : Go p e bl T28 (mkF m 20 #[rv a1, iv 3, rv a2, iv 3, iv 4, iv 3, iv c3] [(.int 255), (.int c3)]) s1 EF := fun t k => pre33 t (by
   refine X28.caload hx (j := 3) (v := (.int c3)) (hp e28 Ar34) (State.isArrayOf_alike hZ.alike Ar34.2.1) Ar34.2.2 hin34 hat34 (g := (mkF m 12 #[rv a1, iv 3, rv a2, iv 3, iv 4, iv 3, iv c2] [(.int 3), (.ref a1)])) rfl rfl (B d2_12) _ ?_
   refine XS.istore X28.here hx rfl (B d2_13) rfl (l' := #[rv a1, iv 3, rv a2, iv 3, iv 4, iv 3, iv c3]) rfl ?_
   refine XS.iload X28.here hx rfl (B d2_15) rfl ?_
   exact XS.sipush X28.here hx rfl (B d2_17) k)
  have pre36 : Go p e bl T28 (mkF m 26 #[rv a1, iv 3, rv a2, iv 3, iv 4, iv 3, iv c3] []) s1 EF := fun t k => pre35 t (XS.icmpYes X28.here hx rfl (pc0 := 20) (pc' := 26) rfl (B d2_20) rfl (flt (hle c3 (mg 3 rfl))).2.2.2 (by decide) (by decide) k)
  have pre37 : Go p e bl T28 (mkF m 31 #[rv a1, iv 3, rv a2, iv 3, iv 4, iv 3, iv c3] [(.int (c3.toInt8.toInt32)), (.int 3), (.ref a2)]) s1 EF := fun t k => pre36 t (by
   refine XS.aloadN X28.here hx rfl (B d2_26) rfl rfl ?_
   refine XS.iloadN X28.here hx rfl (B d2_27) rfl ?_
   refine XS.iload X28.here hx rfl (B d2_28) rfl ?_
   exact XS.i2b X28.here hx rfl (B d2_30) rfl k)
  obtain ⟨cl38, Ar38, q38, Sz38, M38, H38, G38⟩ := id V28
  have hin38 := inb_of (j := (3 : Int32)) Sz38 ⟨by decide, by decide⟩
  obtain ⟨T38, h38, X38, e38, W38, st38⟩ := stB X28 hx hZ e28 Ar38 (j := 3) hin38 (g := (mkF m 31 #[rv a1, iv 3, rv a2, iv 3, iv 4, iv 3, iv c3] [(.int (c3.toInt8.toInt32)), (.int 3), (.ref a2)])) rfl rfl (B d2_31)
  rw [own_i2b2] at W38
  have pre39 : Go p e bl T38 (mkF m 32 #[rv a1, iv 3, rv a2, iv 3, iv 4, iv 3, iv c3] []) s1 EF := fun t k => pre37 t (st38 t k)
  have O40 : Old Z n0 h38 := O30.wr W38 g_a2
  have Z40 : n0 ≤ h38.size := Nat.le_trans Z30 (Keep.of_wr W38).1
  have K40 : Keep h0 h38 [a2] := K30.wr W38 (Or.inl (mg 0 rfl))
  have V38 : Arv Z h38 a2 k2 .byte (4 : Int32) [(.int (c0.toInt8.toInt32)), (.int (c1.toInt8.toInt32)), (.int (c2.toInt8.toInt32)), (.int (c3.toInt8.toInt32))] (.int 0) := Arv.set Ar38 q38 Sz38 M38 H38 G38 (fits_nar_byte _) W38 3 rfl (wl rfl)
  have N38 := Fr.snoc X38 N28 g_a2
  have pre41 : Go p e bl T38 (mkF m 7 #[rv a1, iv 4, rv a2, iv 4, iv 4, iv 4, iv c3] [(.int 4), (.int 4)]) s1 EF := fun t k => pre39 t (by
   refine XS.iinc X38.here hx rfl (B d2_32) rfl (l' := #[rv a1, iv 4, rv a2, iv 3, iv 4, iv 3, iv c3]) rfl ?_
   refine XS.iinc X38.here hx rfl (B d2_35) rfl (l' := #[rv a1, iv 4, rv a2, iv 4, iv 4, iv 3, iv c3]) rfl ?_
   refine XS.iinc X38.here hx rfl (B d2_38) rfl (l' := #[rv a1, iv 4, rv a2, iv 4, iv 4, iv 4, iv c3]) rfl ?_
   refine XS.goto X38.here hx rfl (pc0 := 41) (pc' := 3) rfl (B d2_41) (by decide) (by decide) ?_
   refine XS.iload X38.here hx rfl (B d2_3) rfl ?_
   exact XS.iload X38.here hx rfl (B d2_5) rfl k)
  have pre42 : Go p e bl T38 (mkF m 44 #[rv a1, iv 4, rv a2, iv 4, iv 4, iv 4, iv c3] []) s1 EF := fun t k => pre41 t (XS.icmpYes X38.here hx rfl (pc0 := 7) (pc' := 44) rfl (B d2_7) rfl (flt (by decide : ¬ ((4 : Int32) < (4 : Int32)))).2.1 (by decide) (by decide) k)
  have pre43 : Go p e bl T38 (mkF m 46 #[rv a1, iv 4, rv a2, iv 4, iv 4, iv 4, iv c3] [(.int 4)]) s1 EF := fun t k => pre42 t (by
   exact XS.iload X38.here hx rfl (B d2_44) rfl k)
  exact fin1 X38 (v := some (.int 4)) hrt hlk (wl rfl) (wl rfl) (by rw [e38]; exact ⟨rfl, N38, K40, V38⟩) (fun fs hr => hEF ▸ pre43 _ (retOut X38 hx Bd.returns rfl (Or.inl ⟨rfl, Or.inl rfl, _, rfl⟩) (B d2_46) hr))
abbrev rKKb4 : Room := { frames := 1, cells := 1, slots := 10, locals := 18 }
theorem efKb4 (m : MethodId) (a1 : Addr) : entryFrame m #[(.ref a1), (.int 0), (.int 4)] 6 = mkF m 0 #[rv a1, iv 0, iv 4, .unset, .unset, .unset] [] := by first | (simp [entryFrame, mkF, argsToLocals, Value.category]; done) | rfl
def QKb4 (Z : State) (a1 : Addr) (cz : Int32) (fv : Value) (k1 : ClassId) (c0 : Int32) (c1 : Int32) (c2 : Int32) (c3 : Int32) (h0 : Heap) (n0 : Nat) (v : Option Value) (h : Heap) (L : List Loc) : Prop := ∃ b k, v = some (.ref b) ∧ Fr n0 L ∧ Keep h0 h [] ∧ h0.size ≤ b ∧ Arv Z h b k .byte (4 : Int32) [(.int (c0.toInt8.toInt32)), (.int (c1.toInt8.toInt32)), (.int (c2.toInt8.toInt32)), (.int (c3.toInt8.toInt32))] (.int 0)
set_option maxRecDepth 65536 in
set_option maxHeartbeats 40000000 in
theorem rmKb4 (l : Launch) (Z : State) (a0 : Array Value) (hw : HW a0 Z) (ws : List Jvm.Cond) (a1 : Addr) (cz : Int32) (fv : Value) (k1 : ClassId) (c0 : Int32) (c1 : Int32) (c2 : Int32) (c3 : Int32) (h0 : Heap) (n0 : Nat) (Z0 : n0 ≤ h0.size) (O0 : Old Z n0 h0) (J0 : Jd Z cz fv) (V1 : Arv Z h0 a1 k1 .char (4 : Int32) [(.int c0), (.int c1), (.int c2), (.int c3)] (.int 0)) (hle : (∀ c ∈ [c0, c1, c2, c3], ¬ (255 : Int32) < c)) :
    MF l Z mN3 jdk_52_method_16_code 6 (some (.array .byte)) ws rKKb4 #[(.ref a1), (.int 0), (.int 4)] h0 (QKb4 Z a1 cz fv k1 c0 c1 c2 c3 h0 n0) := by
  refine MetFree.of_bodySF (plainFor_of_name pn2) hisR ?_
  intro p e s m args bl meth c s1 Bd hml0 hP hK
  obtain ⟨rfl, hZ, hh⟩ := hP
  have hx := Bd.exec
  have hby := Bd.bytes
  have B := @hb c _ hby
  have hM := fun {n : Nat} (h : n = 6) => h.trans hml0.symm
  have hown : s.vm.findClass "java/lang/StringUTF16" = some m.cls := findClass_of_methodNamed Bd.named
  have hlk : meth.locks = false := BodyLoose.notSynchronized Bd
  have hrt : ∀ {v : Option Value}, meth.sig.returnType = none → v = none := fun h => by rw [Bd.returns] at h; cases h
  have X0 : Stand p l e rKKb4 s m #[(.ref a1), (.int 0), (.int 4)] bl meth c s1 [] 0 0 := Stand.of_body Bd
  have e0 : s1.heap = h0 := by rw [← hh, Bd.state]; rfl
  have N0 := Fr.nil n0
  obtain ⟨EF, hEF⟩ : ∃ f, f = entryFrame m #[(.ref a1), (.int 0), (.int 4)] 6 := ⟨_, rfl⟩
  have pre0 : Go p e bl s1 (mkF m 0 #[rv a1, iv 0, iv 4, .unset, .unset, .unset] []) s1 EF := fun t k => by rw [hEF]; exact castTop (efKb4 m a1) k
  have pre1 : Go p e bl s1 (mkF m 1 #[rv a1, iv 0, iv 4, .unset, .unset, .unset] [(.int 4)]) s1 EF := fun t k => pre0 t (by
   exact XS.iloadN X0.here hx rfl (B d3_0) rfl k)
  obtain ⟨T2, h2, k2, X2, e2, Et2, A2, st2⟩ := newP X0 hx hZ (hw _ (mW 23 rfl)) e0 (g := (mkF m 1 #[rv a1, iv 0, iv 4, .unset, .unset, .unset] [(.int 4)])) rfl (B d3_1) rfl (by decide) (cap := 4) (by decide) (by decide) (by decide) (by decide)
  obtain ⟨b2, g2⟩ : ∃ z, z = h0.size := ⟨_, rfl⟩
  rw [← g2] at A2 st2
  have g_b2 : n0 ≤ b2 := Nat.le_trans Z0 (Nat.le_of_eq g2.symm)
  have sz_b2 : h0.size ≤ b2 := Nat.le_trans (Keep.refl h0 []).1 (Nat.le_of_eq g2.symm)
  have ne_a1_b2 : a1 ≠ b2 := Nat.ne_of_lt (Nat.lt_of_lt_of_le V1.lt (Nat.le_of_eq g2.symm))
  have pre3 : Go p e bl T2 (mkF m 3 #[rv a1, iv 0, iv 4, .unset, .unset, .unset] [(.ref b2)]) s1 EF := fun t k => pre1 t (st2 t k)
  have O4 : Old Z n0 h2 := O0.ext Et2
  have Z4 : n0 ≤ h2.size := Nat.le_trans Z0 Et2.1
  have K4 : Keep h0 h2 [] := (Keep.refl h0 []).ext Et2
  have V2 : Arv Z h2 b2 k2 .byte (4 : Int32) [(.int 0), (.int 0), (.int 0), (.int 0)] (.int 0) := (Arv.new A2 (by decide)).pad (pad_rep [] (.int 0) 4)
  have pre5 : Go p e bl T2 (mkF m 9 #[rv a1, iv 0, iv 4, rv b2, .unset, .unset] [(.int 4), (.int 0), (.ref b2), (.int 0), (.ref a1)]) s1 EF := fun t k => pre3 t (by
   refine XS.astoreN X2.here hx rfl (B d3_3) rfl rfl (l' := #[rv a1, iv 0, iv 4, rv b2, .unset, .unset]) rfl ?_
   refine XS.aloadN X2.here hx rfl (B d3_4) rfl rfl ?_
   refine XS.iloadN X2.here hx rfl (B d3_5) rfl ?_
   refine XS.aloadN X2.here hx rfl (B d3_6) rfl rfl ?_
   refine XS.iconst X2.here hx rfl (B d3_7) ?_
   exact XS.iloadN X2.here hx rfl (B d3_8) rfl k)
  obtain ⟨_, _, ⟨T6, L6, k6, n6⟩, -, X6, ⟨Lc6, hQ6, l6, y6, z6⟩, st6⟩ := Jvm.LawKit.callS X2 hx (y := mN2) hown (mvT hZ (hw _ (mW 24 rfl))) (mvT hZ (hw _ (mW 25 rfl))) (mvT hZ (hw _ (mW 21 rfl))) (mvT hZ (hw _ (mW 26 rfl))) (by decide) (backOf (W := 0) (rmKa4 l Z a0 hw [] a1 b2 cz fv k1 k2 c0 c1 c2 c3 h2 n0 Z4 O4 J0 (V1.ext Et2) V2 ne_a1_b2 g_b2 hle) hZ (hw _ (mW 26 rfl)) (hw _ (mW 21 rfl)) (by decide) (by decide)) (g := (mkF m 9 #[rv a1, iv 0, iv 4, rv b2, .unset, .unset] [(.int 4), (.int 0), (.ref b2), (.int 0), (.ref a1)])) rfl (hM rfl) (argsL := [(.ref a1), (.int 0), (.ref b2), (.int 0), (.int 4)]) (rest := []) (lenOf pd1 rfl) rfl (Nat.le_of_eq rfl) (B d3_9) (fun _ _ => ⟨rfl, e2, wl rfl, wl rfl⟩)
  dsimp only [Pt.U, Pt.locs, Pt.cells, Pt.slots] at X6 l6 y6 z6 st6 hQ6
  subst l6 y6 z6
  obtain ⟨rfl, N6q, K6, VL6⟩ := hQ6
  have N6 := Fr.app N0 N6q
  have pre7 : Go p e bl T6 (mkF m 12 #[rv a1, iv 0, iv 4, rv b2, .unset, .unset] [(.int 4)]) s1 EF := fun t k => pre5 t (st6 t k)
  have O8 : Old Z n0 T6.heap := O4.keep K6 (allS g_b2 all0)
  have Z8 : n0 ≤ T6.heap.size := Nat.le_trans Z4 K6.1
  have K8 : Keep h0 T6.heap [] := K4.trans K6 (allS (Or.inr sz_b2) all0)
  have pre9 : Go p e bl T6 (mkF m 17 #[rv a1, iv 0, iv 4, rv b2, iv 4, .unset] [(.int 4), (.int 4)]) s1 EF := fun t k => pre7 t (by
   refine XS.istore X6.here hx rfl (B d3_12) rfl (l' := #[rv a1, iv 0, iv 4, rv b2, iv 4, .unset]) rfl ?_
   refine XS.iload X6.here hx rfl (B d3_14) rfl ?_
   exact XS.iloadN X6.here hx rfl (B d3_16) rfl k)
  have pre10 : Go p e bl T6 (mkF m 57 #[rv a1, iv 0, iv 4, rv b2, iv 4, .unset] []) s1 EF := fun t k => pre9 t (XS.icmpYes X6.here hx rfl (pc0 := 17) (pc' := 57) rfl (B d3_17) rfl (teq (by decide : (4 : Int32) = (4 : Int32))).1 (by decide) (by decide) k)
  have pre11 : Go p e bl T6 (mkF m 58 #[rv a1, iv 0, iv 4, rv b2, iv 4, .unset] [(.ref b2)]) s1 EF := fun t k => pre10 t (by
   exact XS.aloadN X6.here hx rfl (B d3_57) rfl rfl k)
  exact fin1 X6 (v := some (.ref b2)) hrt hlk (wl rfl) (wl rfl) (by exact ⟨_, _, rfl, N6, K8, sz_b2, VL6⟩) (fun fs hr => hEF ▸ pre11 _ (retOut X6 hx Bd.returns rfl (Or.inr (Or.inr (Or.inr (Or.inr ⟨rfl, rfl, rfl⟩)))) (B d3_58) hr))
abbrev rKKa3 : Room := { frames := 0, cells := 0, slots := 0, locals := 0 }
theorem efKa3 (m : MethodId) (a1 : Addr) (a2 : Addr) : entryFrame m #[(.ref a1), (.int 0), (.ref a2), (.int 0), (.int 3)] 7 = mkF m 0 #[rv a1, iv 0, rv a2, iv 0, iv 3, .unset, .unset] [] := by first | (simp [entryFrame, mkF, argsToLocals, Value.category]; done) | rfl
def QKa3 (Z : State) (a1 : Addr) (a2 : Addr) (cz : Int32) (fv : Value) (k1 : ClassId) (k2 : ClassId) (c0 : Int32) (c1 : Int32) (c2 : Int32) (h0 : Heap) (n0 : Nat) (v : Option Value) (h : Heap) (L : List Loc) : Prop := v = some (.int 3) ∧ Fr n0 L ∧ Keep h0 h [a2] ∧ Arv Z h a2 k2 .byte (3 : Int32) [(.int (c0.toInt8.toInt32)), (.int (c1.toInt8.toInt32)), (.int (c2.toInt8.toInt32))] (.int 0)
set_option maxRecDepth 65536 in
set_option maxHeartbeats 40000000 in
theorem rmKa3 (l : Launch) (Z : State) (a0 : Array Value) (hw : HW a0 Z) (ws : List Jvm.Cond) (a1 : Addr) (a2 : Addr) (cz : Int32) (fv : Value) (k1 : ClassId) (k2 : ClassId) (c0 : Int32) (c1 : Int32) (c2 : Int32) (h0 : Heap) (n0 : Nat) (Z0 : n0 ≤ h0.size) (O0 : Old Z n0 h0) (J0 : Jd Z cz fv) (V1 : Arv Z h0 a1 k1 .char (3 : Int32) [(.int c0), (.int c1), (.int c2)] (.int 0)) (V2 : Arv Z h0 a2 k2 .byte (3 : Int32) [(.int 0), (.int 0), (.int 0)] (.int 0)) (ne12 : a1 ≠ a2) (g_a2 : n0 ≤ a2) (hle : (∀ c ∈ [c0, c1, c2], ¬ (255 : Int32) < c)) :
    MF l Z mN2 jdk_52_method_21_code 7 (some .int) ws rKKa3 #[(.ref a1), (.int 0), (.ref a2), (.int 0), (.int 3)] h0 (QKa3 Z a1 a2 cz fv k1 k2 c0 c1 c2 h0 n0) := by
  refine MetFree.of_bodySF (plainFor_of_name pn2) hisR ?_
  intro p e s m args bl meth c s1 Bd hml0 hP hK
  obtain ⟨rfl, hZ, hh⟩ := hP
  have hx := Bd.exec
  have hby := Bd.bytes
  have B := @hb c _ hby
  have hown : s.vm.findClass "java/lang/StringUTF16" = some m.cls := findClass_of_methodNamed Bd.named
  have hlk : meth.locks = false := BodyLoose.notSynchronized Bd
  have hrt : ∀ {v : Option Value}, meth.sig.returnType = none → v = none := fun h => by rw [Bd.returns] at h; cases h
  have X0 : Stand p l e rKKa3 s m #[(.ref a1), (.int 0), (.ref a2), (.int 0), (.int 3)] bl meth c s1 [] 0 0 := Stand.of_body Bd
  have e0 : s1.heap = h0 := by rw [← hh, Bd.state]; rfl
  have N0 := Fr.nil n0
  obtain ⟨EF, hEF⟩ : ∃ f, f = entryFrame m #[(.ref a1), (.int 0), (.ref a2), (.int 0), (.int 3)] 7 := ⟨_, rfl⟩
  have pre0 : Go p e bl s1 (mkF m 0 #[rv a1, iv 0, rv a2, iv 0, iv 3, .unset, .unset] []) s1 EF := fun t k => by rw [hEF]; exact castTop (efKa3 m a1 a2) k
  have pre1 : Go p e bl s1 (mkF m 7 #[rv a1, iv 0, rv a2, iv 0, iv 3, iv 0, .unset] [(.int 3), (.int 0)]) s1 EF := fun t k => pre0 t (by
   refine XS.iconst X0.here hx rfl (B d2_0) ?_
   refine XS.istore X0.here hx rfl (B d2_1) rfl (l' := #[rv a1, iv 0, rv a2, iv 0, iv 3, iv 0, .unset]) rfl ?_
   refine XS.iload X0.here hx rfl (B d2_3) rfl ?_
   exact XS.iload X0.here hx rfl (B d2_5) rfl k)
  have pre2 : Go p e bl s1 (mkF m 10 #[rv a1, iv 0, rv a2, iv 0, iv 3, iv 0, .unset] []) s1 EF := fun t k => pre1 t (XS.icmpNo X0.here hx rfl (B d2_7) rfl (tlt (by decide : (0 : Int32) < (3 : Int32))).2.1 k)
  have pre3 : Go p e bl s1 (mkF m 12 #[rv a1, iv 0, rv a2, iv 0, iv 3, iv 0, .unset] [(.int 0), (.ref a1)]) s1 EF := fun t k => pre2 t (by
   refine XS.aloadN X0.here hx rfl (B d2_10) rfl rfl ?_
   exact XS.iloadN X0.here hx rfl (B d2_11) rfl k)
  obtain ⟨cl4, Ar4, q4, Sz4, M4, H4, G4⟩ := id V1
  have hin4 := inb_of (j := (0 : Int32)) Sz4 ⟨by decide, by decide⟩
  have hat4 := Has.at (v := (.int c0)) H4 hin4 rfl
  have pre5 : Go p e bl s1 (mkF m 20 #[rv a1, iv 0, rv a2, iv 0, iv 3, iv 0, iv c0] [(.int 255), (.int c0)]) s1 EF := fun t k => pre3 t (by
   refine X0.caload hx (j := 0) (v := (.int c0)) (hp e0 Ar4) (State.isArrayOf_alike hZ.alike Ar4.2.1) Ar4.2.2 hin4 hat4 (g := (mkF m 12 #[rv a1, iv 0, rv a2, iv 0, iv 3, iv 0, .unset] [(.int 0), (.ref a1)])) rfl rfl (B d2_12) _ ?_
   refine XS.istore X0.here hx rfl (B d2_13) rfl (l' := #[rv a1, iv 0, rv a2, iv 0, iv 3, iv 0, iv c0]) rfl ?_
   refine XS.iload X0.here hx rfl (B d2_15) rfl ?_
   exact XS.sipush X0.here hx rfl (B d2_17) k)
  have pre6 : Go p e bl s1 (mkF m 26 #[rv a1, iv 0, rv a2, iv 0, iv 3, iv 0, iv c0] []) s1 EF := fun t k => pre5 t (XS.icmpYes X0.here hx rfl (pc0 := 20) (pc' := 26) rfl (B d2_20) rfl (flt (hle c0 (mg 0 rfl))).2.2.2 (by decide) (by decide) k)
  have pre7 : Go p e bl s1 (mkF m 31 #[rv a1, iv 0, rv a2, iv 0, iv 3, iv 0, iv c0] [(.int (c0.toInt8.toInt32)), (.int 0), (.ref a2)]) s1 EF := fun t k => pre6 t (by
   refine XS.aloadN X0.here hx rfl (B d2_26) rfl rfl ?_
   refine XS.iloadN X0.here hx rfl (B d2_27) rfl ?_
   refine XS.iload X0.here hx rfl (B d2_28) rfl ?_
   exact XS.i2b X0.here hx rfl (B d2_30) rfl k)
  obtain ⟨cl8, Ar8, q8, Sz8, M8, H8, G8⟩ := id V2
  have hin8 := inb_of (j := (0 : Int32)) Sz8 ⟨by decide, by decide⟩
  obtain ⟨T8, h8, X8, e8, W8, st8⟩ := stB X0 hx hZ e0 Ar8 (j := 0) hin8 (g := (mkF m 31 #[rv a1, iv 0, rv a2, iv 0, iv 3, iv 0, iv c0] [(.int (c0.toInt8.toInt32)), (.int 0), (.ref a2)])) rfl rfl (B d2_31)
  rw [own_i2b2] at W8
  have pre9 : Go p e bl T8 (mkF m 32 #[rv a1, iv 0, rv a2, iv 0, iv 3, iv 0, iv c0] []) s1 EF := fun t k => pre7 t (st8 t k)
  have O10 : Old Z n0 h8 := O0.wr W8 g_a2
  have Z10 : n0 ≤ h8.size := Nat.le_trans Z0 (Keep.of_wr W8).1
  have K10 : Keep h0 h8 [a2] := (Keep.refl h0 [a2]).wr W8 (Or.inl (mg 0 rfl))
  have V8 : Arv Z h8 a2 k2 .byte (3 : Int32) [(.int (c0.toInt8.toInt32)), (.int 0), (.int 0)] (.int 0) := Arv.set Ar8 q8 Sz8 M8 H8 G8 (fits_nar_byte _) W8 0 rfl (wl rfl)
  have N8 := Fr.snoc X8 N0 g_a2
  have pre11 : Go p e bl T8 (mkF m 7 #[rv a1, iv 1, rv a2, iv 1, iv 3, iv 1, iv c0] [(.int 3), (.int 1)]) s1 EF := fun t k => pre9 t (by
   refine XS.iinc X8.here hx rfl (B d2_32) rfl (l' := #[rv a1, iv 1, rv a2, iv 0, iv 3, iv 0, iv c0]) rfl ?_
   refine XS.iinc X8.here hx rfl (B d2_35) rfl (l' := #[rv a1, iv 1, rv a2, iv 1, iv 3, iv 0, iv c0]) rfl ?_
   refine XS.iinc X8.here hx rfl (B d2_38) rfl (l' := #[rv a1, iv 1, rv a2, iv 1, iv 3, iv 1, iv c0]) rfl ?_
   refine XS.goto X8.here hx rfl (pc0 := 41) (pc' := 3) rfl (B d2_41) (by decide) (by decide) ?_
   refine XS.iload X8.here hx rfl (B d2_3) rfl ?_
   exact XS.iload X8.here hx rfl (B d2_5) rfl k)
  have pre12 : Go p e bl T8 (mkF m 10 #[rv a1, iv 1, rv a2, iv 1, iv 3, iv 1, iv c0] []) s1 EF := fun t k => pre11 t (XS.icmpNo X8.here hx rfl (B d2_7) rfl (tlt (by decide : (1 : Int32) < (3 : Int32))).2.1 k)
  have pre13 : Go p e bl T8 (mkF m 12 #[rv a1, iv 1, rv a2, iv 1, iv 3, iv 1, iv c0] [(.int 1), (.ref a1)]) s1 EF := fun t k => pre12 t (by
   refine XS.aloadN X8.here hx rfl (B d2_10) rfl rfl ?_
   exact XS.iloadN X8.here hx rfl (B d2_11) rfl k)
  obtain ⟨cl14, Ar14, q14, Sz14, M14, H14, G14⟩ := id (V1.other W8 ne12)
  have hin14 := inb_of (j := (1 : Int32)) Sz14 ⟨by decide, by decide⟩
  have hat14 := Has.at (v := (.int c1)) H14 hin14 rfl
  have pre15 : Go p e bl T8 (mkF m 20 #[rv a1, iv 1, rv a2, iv 1, iv 3, iv 1, iv c1] [(.int 255), (.int c1)]) s1 EF := fun t k => pre13 t (by
   refine X8.caload hx (j := 1) (v := (.int c1)) (hp e8 Ar14) (State.isArrayOf_alike hZ.alike Ar14.2.1) Ar14.2.2 hin14 hat14 (g := (mkF m 12 #[rv a1, iv 1, rv a2, iv 1, iv 3, iv 1, iv c0] [(.int 1), (.ref a1)])) rfl rfl (B d2_12) _ ?_
   refine XS.istore X8.here hx rfl (B d2_13) rfl (l' := #[rv a1, iv 1, rv a2, iv 1, iv 3, iv 1, iv c1]) rfl ?_
   refine XS.iload X8.here hx rfl (B d2_15) rfl ?_
   exact XS.sipush X8.here hx rfl (B d2_17) k)
  have pre16 : Go p e bl T8 (mkF m 26 #[rv a1, iv 1, rv a2, iv 1, iv 3, iv 1, iv c1] []) s1 EF := fun t k => pre15 t (XS.icmpYes X8.here hx rfl (pc0 := 20) (pc' := 26) rfl (B d2_20) rfl (flt (hle c1 (mg 1 rfl))).2.2.2 (by decide) (by decide) k)
  have pre17 : Go p e bl T8 (mkF m 31 #[rv a1, iv 1, rv a2, iv 1, iv 3, iv 1, iv c1] [(.int (c1.toInt8.toInt32)), (.int 1), (.ref a2)]) s1 EF := fun t k => pre16 t (by
   refine XS.aloadN X8.here hx rfl (B d2_26) rfl rfl ?_
   refine XS.iloadN X8.here hx rfl (B d2_27) rfl ?_
   refine XS.iload X8.here hx rfl (B d2_28) rfl ?_
   exact XS.i2b X8.here hx rfl (B d2_30) rfl k)
  obtain ⟨cl18, Ar18, q18, Sz18, M18, H18, G18⟩ := id V8
  have hin18 := inb_of (j := (1 : Int32)) Sz18 ⟨by decide, by decide⟩
  obtain ⟨T18, h18, X18, e18, W18, st18⟩ := stB X8 hx hZ e8 Ar18 (j := 1) hin18 (g := (mkF m 31 #[rv a1, iv 1, rv a2, iv 1, iv 3, iv 1, iv c1] [(.int (c1.toInt8.toInt32)), (.int 1), (.ref a2)])) rfl rfl (B d2_31)
  rw [own_i2b2] at W18
  have pre19 : Go p e bl T18 (mkF m 32 #[rv a1, iv 1, rv a2, iv 1, iv 3, iv 1, iv c1] []) s1 EF := fun t k => pre17 t (st18 t k)
  have O20 : Old Z n0 h18 := O10.wr W18 g_a2
  have Z20 : n0 ≤ h18.size := Nat.le_trans Z10 (Keep.of_wr W18).1
  have K20 : Keep h0 h18 [a2] := K10.wr W18 (Or.inl (mg 0 rfl))
  have V18 : Arv Z h18 a2 k2 .byte (3 : Int32) [(.int (c0.toInt8.toInt32)), (.int (c1.toInt8.toInt32)), (.int 0)] (.int 0) := Arv.set Ar18 q18 Sz18 M18 H18 G18 (fits_nar_byte _) W18 1 rfl (wl rfl)
  have N18 := Fr.snoc X18 N8 g_a2
  have pre21 : Go p e bl T18 (mkF m 7 #[rv a1, iv 2, rv a2, iv 2, iv 3, iv 2, iv c1] [(.int 3), (.int 2)]) s1 EF := fun t k => pre19 t (by
   refine XS.iinc X18.here hx rfl (B d2_32) rfl (l' := #[rv a1, iv 2, rv a2, iv 1, iv 3, iv 1, iv c1]) rfl ?_
   refine XS.iinc X18.here hx rfl (B d2_35) rfl (l' := #[rv a1, iv 2, rv a2, iv 2, iv 3, iv 1, iv c1]) rfl ?_
   refine XS.iinc X18.here hx rfl (B d2_38) rfl (l' := #[rv a1, iv 2, rv a2, iv 2, iv 3, iv 2, iv c1]) rfl ?_
   refine XS.goto X18.here hx rfl (pc0 := 41) (pc' := 3) rfl (B d2_41) (by decide) (by decide) ?_
   refine XS.iload X18.here hx rfl (B d2_3) rfl ?_
   exact XS.iload X18.here hx rfl (B d2_5) rfl k)
  have pre22 : Go p e bl T18 (mkF m 10 #[rv a1, iv 2, rv a2, iv 2, iv 3, iv 2, iv c1] []) s1 EF := fun t k => pre21 t (XS.icmpNo X18.here hx rfl (B d2_7) rfl (tlt (by decide : (2 : Int32) < (3 : Int32))).2.1 k)
  have pre23 : Go p e bl T18 (mkF m 12 #[rv a1, iv 2, rv a2, iv 2, iv 3, iv 2, iv c1] [(.int 2), (.ref a1)]) s1 EF := fun t k => pre22 t (by
   refine XS.aloadN X18.here hx rfl (B d2_10) rfl rfl ?_
   exact XS.iloadN X18.here hx rfl (B d2_11) rfl k)
  obtain ⟨cl24, Ar24, q24, Sz24, M24, H24, G24⟩ := id ((V1.other W8 ne12).other W18 ne12)
  have hin24 := inb_of (j := (2 : Int32)) Sz24 ⟨by decide, by decide⟩
  have hat24 := Has.at (v := (.int c2)) H24 hin24 rfl
  have pre25 : Go p e bl T18 (mkF m 20 #[rv a1, iv 2, rv a2, iv 2, iv 3, iv 2, iv c2] [(.int 255), (.int c2)]) s1 EF := fun t k => pre23 t (by
   refine X18.caload hx (j := 2) (v := (.int c2)) (hp e18 Ar24) (State.isArrayOf_alike hZ.alike Ar24.2.1) Ar24.2.2 hin24 hat24 (g := (mkF m 12 #[rv a1, iv 2, rv a2, iv 2, iv 3, iv 2, iv c1] [(.int 2), (.ref a1)])) rfl rfl (B d2_12) _ ?_
   refine XS.istore X18.here hx rfl (B d2_13) rfl (l' := #[rv a1, iv 2, rv a2, iv 2, iv 3, iv 2, iv c2]) rfl ?_
   refine XS.iload X18.here hx rfl (B d2_15) rfl ?_
   exact XS.sipush X18.here hx rfl (B d2_17) k)
  have pre26 : Go p e bl T18 (mkF m 26 #[rv a1, iv 2, rv a2, iv 2, iv 3, iv 2, iv c2] []) s1 EF := fun t k => pre25 t (XS.icmpYes X18.here hx rfl (pc0 := 20) (pc' := 26) rfl (B d2_20) rfl (flt (hle c2 (mg 2 rfl))).2.2.2 (by decide) (by decide) k)
  have pre27 : Go p e bl T18 (mkF m 31 #[rv a1, iv 2, rv a2, iv 2, iv 3, iv 2, iv c2] [(.int (c2.toInt8.toInt32)), (.int 2), (.ref a2)]) s1 EF := fun t k => pre26 t (by
   refine XS.aloadN X18.here hx rfl (B d2_26) rfl rfl ?_
   refine XS.iloadN X18.here hx rfl (B d2_27) rfl ?_
   refine XS.iload X18.here hx rfl (B d2_28) rfl ?_
   exact XS.i2b X18.here hx rfl (B d2_30) rfl k)
  obtain ⟨cl28, Ar28, q28, Sz28, M28, H28, G28⟩ := id V18
  have hin28 := inb_of (j := (2 : Int32)) Sz28 ⟨by decide, by decide⟩
  obtain ⟨T28, h28, X28, e28, W28, st28⟩ := stB X18 hx hZ e18 Ar28 (j := 2) hin28 (g := (mkF m 31 #[rv a1, iv 2, rv a2, iv 2, iv 3, iv 2, iv c2] [(.int (c2.toInt8.toInt32)), (.int 2), (.ref a2)])) rfl rfl (B d2_31)
  rw [own_i2b2] at W28
  have pre29 : Go p e bl T28 (mkF m 32 #[rv a1, iv 2, rv a2, iv 2, iv 3, iv 2, iv c2] []) s1 EF := fun t k => pre27 t (st28 t k)
  have O30 : Old Z n0 h28 := O20.wr W28 g_a2
  have Z30 : n0 ≤ h28.size := Nat.le_trans Z20 (Keep.of_wr W28).1
  have K30 : Keep h0 h28 [a2] := K20.wr W28 (Or.inl (mg 0 rfl))
  have V28 : Arv Z h28 a2 k2 .byte (3 : Int32) [(.int (c0.toInt8.toInt32)), (.int (c1.toInt8.toInt32)), (.int (c2.toInt8.toInt32))] (.int 0) := Arv.set Ar28 q28 Sz28 M28 H28 G28 (fits_nar_byte _) W28 2 rfl (wl rfl)
  have N28 := Fr.snoc X28 N18 g_a2
  have pre31 : Go p e bl T28 (mkF m 7 #[rv a1, iv 3, rv a2, iv 3, iv 3, iv 3, iv c2] [(.int 3), (.int 3)]) s1 EF := fun t k => pre29 t (by
   refine XS.iinc X28.here hx rfl (B d2_32) rfl (l' := #[rv a1, iv 3, rv a2, iv 2, iv 3, iv 2, iv c2]) rfl ?_
   refine XS.iinc X28.here hx rfl (B d2_35) rfl (l' := #[rv a1, iv 3, rv a2, iv 3, iv 3, iv 2, iv c2]) rfl ?_
   refine XS.iinc X28.here hx rfl (B d2_38) rfl (l' := #[rv a1, iv 3, rv a2, iv 3, iv 3, iv 3, iv c2]) rfl ?_
   refine XS.goto X28.here hx rfl (pc0 := 41) (pc' := 3) rfl (B d2_41) (by decide) (by decide) ?_
   refine XS.iload X28.here hx rfl (B d2_3) rfl ?_
   exact XS.iload X28.here hx rfl (B d2_5) rfl k)
  have pre32 : Go p e bl T28 (mkF m 44 #[rv a1, iv 3, rv a2, iv 3, iv 3, iv 3, iv c2] []) s1 EF := fun t k => pre31 t (XS.icmpYes X28.here hx rfl (pc0 := 7) (pc' := 44) rfl (B d2_7) rfl (flt (by decide : ¬ ((3 : Int32) < (3 : Int32)))).2.1 (by decide) (by decide) k)
  have pre33 : Go p e bl T28 (mkF m 46 #[rv a1, iv 3, rv a2, iv 3, iv 3, iv 3, iv c2] [(.int 3)]) s1 EF := fun t k => pre32 t (by
   exact XS.iload X28.here hx rfl (B d2_44) rfl k)
  exact fin1 X28 (v := some (.int 3)) hrt hlk (wl rfl) (wl rfl) (by rw [e28]; exact ⟨rfl, N28, K30, V28⟩) (fun fs hr => hEF ▸ pre33 _ (retOut X28 hx Bd.returns rfl (Or.inl ⟨rfl, Or.inl rfl, _, rfl⟩) (B d2_46) hr))
abbrev rKKb3 : Room := { frames := 1, cells := 1, slots := 10, locals := 18 }
theorem efKb3 (m : MethodId) (a1 : Addr) : entryFrame m #[(.ref a1), (.int 0), (.int 3)] 6 = mkF m 0 #[rv a1, iv 0, iv 3, .unset, .unset, .unset] [] := by first | (simp [entryFrame, mkF, argsToLocals, Value.category]; done) | rfl
def QKb3 (Z : State) (a1 : Addr) (cz : Int32) (fv : Value) (k1 : ClassId) (c0 : Int32) (c1 : Int32) (c2 : Int32) (h0 : Heap) (n0 : Nat) (v : Option Value) (h : Heap) (L : List Loc) : Prop := ∃ b k, v = some (.ref b) ∧ Fr n0 L ∧ Keep h0 h [] ∧ h0.size ≤ b ∧ Arv Z h b k .byte (3 : Int32) [(.int (c0.toInt8.toInt32)), (.int (c1.toInt8.toInt32)), (.int (c2.toInt8.toInt32))] (.int 0)
set_option maxRecDepth 65536 in
set_option maxHeartbeats 40000000 in
theorem rmKb3 (l : Launch) (Z : State) (a0 : Array Value) (hw : HW a0 Z) (ws : List Jvm.Cond) (a1 : Addr) (cz : Int32) (fv : Value) (k1 : ClassId) (c0 : Int32) (c1 : Int32) (c2 : Int32) (h0 : Heap) (n0 : Nat) (Z0 : n0 ≤ h0.size) (O0 : Old Z n0 h0) (J0 : Jd Z cz fv) (V1 : Arv Z h0 a1 k1 .char (3 : Int32) [(.int c0), (.int c1), (.int c2)] (.int 0)) (hle : (∀ c ∈ [c0, c1, c2], ¬ (255 : Int32) < c)) :
    MF l Z mN3 jdk_52_method_16_code 6 (some (.array .byte)) ws rKKb3 #[(.ref a1), (.int 0), (.int 3)] h0 (QKb3 Z a1 cz fv k1 c0 c1 c2 h0 n0) := by
  refine MetFree.of_bodySF (plainFor_of_name pn2) hisR ?_
  intro p e s m args bl meth c s1 Bd hml0 hP hK
  obtain ⟨rfl, hZ, hh⟩ := hP
  have hx := Bd.exec
  have hby := Bd.bytes
  have B := @hb c _ hby
  have hM := fun {n : Nat} (h : n = 6) => h.trans hml0.symm
  have hown : s.vm.findClass "java/lang/StringUTF16" = some m.cls := findClass_of_methodNamed Bd.named
  have hlk : meth.locks = false := BodyLoose.notSynchronized Bd
  have hrt : ∀ {v : Option Value}, meth.sig.returnType = none → v = none := fun h => by rw [Bd.returns] at h; cases h
  have X0 : Stand p l e rKKb3 s m #[(.ref a1), (.int 0), (.int 3)] bl meth c s1 [] 0 0 := Stand.of_body Bd
  have e0 : s1.heap = h0 := by rw [← hh, Bd.state]; rfl
  have N0 := Fr.nil n0
  obtain ⟨EF, hEF⟩ : ∃ f, f = entryFrame m #[(.ref a1), (.int 0), (.int 3)] 6 := ⟨_, rfl⟩
  have pre0 : Go p e bl s1 (mkF m 0 #[rv a1, iv 0, iv 3, .unset, .unset, .unset] []) s1 EF := fun t k => by rw [hEF]; exact castTop (efKb3 m a1) k
  have pre1 : Go p e bl s1 (mkF m 1 #[rv a1, iv 0, iv 3, .unset, .unset, .unset] [(.int 3)]) s1 EF := fun t k => pre0 t (by
   exact XS.iloadN X0.here hx rfl (B d3_0) rfl k)
  obtain ⟨T2, h2, k2, X2, e2, Et2, A2, st2⟩ := newP X0 hx hZ (hw _ (mW 23 rfl)) e0 (g := (mkF m 1 #[rv a1, iv 0, iv 3, .unset, .unset, .unset] [(.int 3)])) rfl (B d3_1) rfl (by decide) (cap := 3) (by decide) (by decide) (by decide) (by decide)
  obtain ⟨b2, g2⟩ : ∃ z, z = h0.size := ⟨_, rfl⟩
  rw [← g2] at A2 st2
  have g_b2 : n0 ≤ b2 := Nat.le_trans Z0 (Nat.le_of_eq g2.symm)
  have sz_b2 : h0.size ≤ b2 := Nat.le_trans (Keep.refl h0 []).1 (Nat.le_of_eq g2.symm)
  have ne_a1_b2 : a1 ≠ b2 := Nat.ne_of_lt (Nat.lt_of_lt_of_le V1.lt (Nat.le_of_eq g2.symm))
  have pre3 : Go p e bl T2 (mkF m 3 #[rv a1, iv 0, iv 3, .unset, .unset, .unset] [(.ref b2)]) s1 EF := fun t k => pre1 t (st2 t k)
  have O4 : Old Z n0 h2 := O0.ext Et2
  have Z4 : n0 ≤ h2.size := Nat.le_trans Z0 Et2.1
  have K4 : Keep h0 h2 [] := (Keep.refl h0 []).ext Et2
  have V2 : Arv Z h2 b2 k2 .byte (3 : Int32) [(.int 0), (.int 0), (.int 0)] (.int 0) := (Arv.new A2 (by decide)).pad (pad_rep [] (.int 0) 3)
  have pre5 : Go p e bl T2 (mkF m 9 #[rv a1, iv 0, iv 3, rv b2, .unset, .unset] [(.int 3), (.int 0), (.ref b2), (.int 0), (.ref a1)]) s1 EF := fun t k => pre3 t (by
   refine XS.astoreN X2.here hx rfl (B d3_3) rfl rfl (l' := #[rv a1, iv 0, iv 3, rv b2, .unset, .unset]) rfl ?_
   refine XS.aloadN X2.here hx rfl (B d3_4) rfl rfl ?_
   refine XS.iloadN X2.here hx rfl (B d3_5) rfl ?_
   refine XS.aloadN X2.here hx rfl (B d3_6) rfl rfl ?_
   refine XS.iconst X2.here hx rfl (B d3_7) ?_
   exact XS.iloadN X2.here hx rfl (B d3_8) rfl k)
  obtain ⟨_, _, ⟨T6, L6, k6, n6⟩, -, X6, ⟨Lc6, hQ6, l6, y6, z6⟩, st6⟩ := Jvm.LawKit.callS X2 hx (y := mN2) hown (mvT hZ (hw _ (mW 24 rfl))) (mvT hZ (hw _ (mW 25 rfl))) (mvT hZ (hw _ (mW 21 rfl))) (mvT hZ (hw _ (mW 26 rfl))) (by decide) (backOf (W := 0) (rmKa3 l Z a0 hw [] a1 b2 cz fv k1 k2 c0 c1 c2 h2 n0 Z4 O4 J0 (V1.ext Et2) V2 ne_a1_b2 g_b2 hle) hZ (hw _ (mW 26 rfl)) (hw _ (mW 21 rfl)) (by decide) (by decide)) (g := (mkF m 9 #[rv a1, iv 0, iv 3, rv b2, .unset, .unset] [(.int 3), (.int 0), (.ref b2), (.int 0), (.ref a1)])) rfl (hM rfl) (argsL := [(.ref a1), (.int 0), (.ref b2), (.int 0), (.int 3)]) (rest := []) (lenOf pd1 rfl) rfl (Nat.le_of_eq rfl) (B d3_9) (fun _ _ => ⟨rfl, e2, wl rfl, wl rfl⟩)
  dsimp only [Pt.U, Pt.locs, Pt.cells, Pt.slots] at X6 l6 y6 z6 st6 hQ6
  subst l6 y6 z6
  obtain ⟨rfl, N6q, K6, VL6⟩ := hQ6
  have N6 := Fr.app N0 N6q
  have pre7 : Go p e bl T6 (mkF m 12 #[rv a1, iv 0, iv 3, rv b2, .unset, .unset] [(.int 3)]) s1 EF := fun t k => pre5 t (st6 t k)
  have O8 : Old Z n0 T6.heap := O4.keep K6 (allS g_b2 all0)
  have Z8 : n0 ≤ T6.heap.size := Nat.le_trans Z4 K6.1
  have K8 : Keep h0 T6.heap [] := K4.trans K6 (allS (Or.inr sz_b2) all0)
  have pre9 : Go p e bl T6 (mkF m 17 #[rv a1, iv 0, iv 3, rv b2, iv 3, .unset] [(.int 3), (.int 3)]) s1 EF := fun t k => pre7 t (by
   refine XS.istore X6.here hx rfl (B d3_12) rfl (l' := #[rv a1, iv 0, iv 3, rv b2, iv 3, .unset]) rfl ?_
   refine XS.iload X6.here hx rfl (B d3_14) rfl ?_
   exact XS.iloadN X6.here hx rfl (B d3_16) rfl k)
  have pre10 : Go p e bl T6 (mkF m 57 #[rv a1, iv 0, iv 3, rv b2, iv 3, .unset] []) s1 EF := fun t k => pre9 t (XS.icmpYes X6.here hx rfl (pc0 := 17) (pc' := 57) rfl (B d3_17) rfl (teq (by decide : (3 : Int32) = (3 : Int32))).1 (by decide) (by decide) k)
  have pre11 : Go p e bl T6 (mkF m 58 #[rv a1, iv 0, iv 3, rv b2, iv 3, .unset] [(.ref b2)]) s1 EF := fun t k => pre10 t (by
   exact XS.aloadN X6.here hx rfl (B d3_57) rfl rfl k)
  exact fin1 X6 (v := some (.ref b2)) hrt hlk (wl rfl) (wl rfl) (by exact ⟨_, _, rfl, N6, K8, sz_b2, VL6⟩) (fun fs hr => hEF ▸ pre11 _ (retOut X6 hx Bd.returns rfl (Or.inr (Or.inr (Or.inr (Or.inr ⟨rfl, rfl, rfl⟩)))) (B d3_58) hr))
abbrev rKKa2 : Room := { frames := 0, cells := 0, slots := 0, locals := 0 }
theorem efKa2 (m : MethodId) (a1 : Addr) (a2 : Addr) : entryFrame m #[(.ref a1), (.int 0), (.ref a2), (.int 0), (.int 2)] 7 = mkF m 0 #[rv a1, iv 0, rv a2, iv 0, iv 2, .unset, .unset] [] := by first | (simp [entryFrame, mkF, argsToLocals, Value.category]; done) | rfl
def QKa2 (Z : State) (a1 : Addr) (a2 : Addr) (cz : Int32) (fv : Value) (k1 : ClassId) (k2 : ClassId) (c0 : Int32) (c1 : Int32) (h0 : Heap) (n0 : Nat) (v : Option Value) (h : Heap) (L : List Loc) : Prop := v = some (.int 2) ∧ Fr n0 L ∧ Keep h0 h [a2] ∧ Arv Z h a2 k2 .byte (2 : Int32) [(.int (c0.toInt8.toInt32)), (.int (c1.toInt8.toInt32))] (.int 0)
set_option maxRecDepth 65536 in
set_option maxHeartbeats 40000000 in
theorem rmKa2 (l : Launch) (Z : State) (a0 : Array Value) (hw : HW a0 Z) (ws : List Jvm.Cond) (a1 : Addr) (a2 : Addr) (cz : Int32) (fv : Value) (k1 : ClassId) (k2 : ClassId) (c0 : Int32) (c1 : Int32) (h0 : Heap) (n0 : Nat) (Z0 : n0 ≤ h0.size) (O0 : Old Z n0 h0) (J0 : Jd Z cz fv) (V1 : Arv Z h0 a1 k1 .char (2 : Int32) [(.int c0), (.int c1)] (.int 0)) (V2 : Arv Z h0 a2 k2 .byte (2 : Int32) [(.int 0), (.int 0)] (.int 0)) (ne12 : a1 ≠ a2) (g_a2 : n0 ≤ a2) (hle : (∀ c ∈ [c0, c1], ¬ (255 : Int32) < c)) :
    MF l Z mN2 jdk_52_method_21_code 7 (some .int) ws rKKa2 #[(.ref a1), (.int 0), (.ref a2), (.int 0), (.int 2)] h0 (QKa2 Z a1 a2 cz fv k1 k2 c0 c1 h0 n0) := by
  refine MetFree.of_bodySF (plainFor_of_name pn2) hisR ?_
  intro p e s m args bl meth c s1 Bd hml0 hP hK
  obtain ⟨rfl, hZ, hh⟩ := hP
  have hx := Bd.exec
  have hby := Bd.bytes
  have B := @hb c _ hby
  have hown : s.vm.findClass "java/lang/StringUTF16" = some m.cls := findClass_of_methodNamed Bd.named
  have hlk : meth.locks = false := BodyLoose.notSynchronized Bd
  have hrt : ∀ {v : Option Value}, meth.sig.returnType = none → v = none := fun h => by rw [Bd.returns] at h; cases h
  have X0 : Stand p l e rKKa2 s m #[(.ref a1), (.int 0), (.ref a2), (.int 0), (.int 2)] bl meth c s1 [] 0 0 := Stand.of_body Bd
  have e0 : s1.heap = h0 := by rw [← hh, Bd.state]; rfl
  have N0 := Fr.nil n0
  obtain ⟨EF, hEF⟩ : ∃ f, f = entryFrame m #[(.ref a1), (.int 0), (.ref a2), (.int 0), (.int 2)] 7 := ⟨_, rfl⟩
  have pre0 : Go p e bl s1 (mkF m 0 #[rv a1, iv 0, rv a2, iv 0, iv 2, .unset, .unset] []) s1 EF := fun t k => by rw [hEF]; exact castTop (efKa2 m a1 a2) k
  have pre1 : Go p e bl s1 (mkF m 7 #[rv a1, iv 0, rv a2, iv 0, iv 2, iv 0, .unset] [(.int 2), (.int 0)]) s1 EF := fun t k => pre0 t (by
   refine XS.iconst X0.here hx rfl (B d2_0) ?_
   refine XS.istore X0.here hx rfl (B d2_1) rfl (l' := #[rv a1, iv 0, rv a2, iv 0, iv 2, iv 0, .unset]) rfl ?_
   refine XS.iload X0.here hx rfl (B d2_3) rfl ?_
   exact XS.iload X0.here hx rfl (B d2_5) rfl k)
  have pre2 : Go p e bl s1 (mkF m 10 #[rv a1, iv 0, rv a2, iv 0, iv 2, iv 0, .unset] []) s1 EF := fun t k => pre1 t (XS.icmpNo X0.here hx rfl (B d2_7) rfl (tlt (by decide : (0 : Int32) < (2 : Int32))).2.1 k)
  have pre3 : Go p e bl s1 (mkF m 12 #[rv a1, iv 0, rv a2, iv 0, iv 2, iv 0, .unset] [(.int 0), (.ref a1)]) s1 EF := fun t k => pre2 t (by
   refine XS.aloadN X0.here hx rfl (B d2_10) rfl rfl ?_
   exact XS.iloadN X0.here hx rfl (B d2_11) rfl k)
  obtain ⟨cl4, Ar4, q4, Sz4, M4, H4, G4⟩ := id V1
  have hin4 := inb_of (j := (0 : Int32)) Sz4 ⟨by decide, by decide⟩
  have hat4 := Has.at (v := (.int c0)) H4 hin4 rfl
  have pre5 : Go p e bl s1 (mkF m 20 #[rv a1, iv 0, rv a2, iv 0, iv 2, iv 0, iv c0] [(.int 255), (.int c0)]) s1 EF := fun t k => pre3 t (by
   refine X0.caload hx (j := 0) (v := (.int c0)) (hp e0 Ar4) (State.isArrayOf_alike hZ.alike Ar4.2.1) Ar4.2.2 hin4 hat4 (g := (mkF m 12 #[rv a1, iv 0, rv a2, iv 0, iv 2, iv 0, .unset] [(.int 0), (.ref a1)])) rfl rfl (B d2_12) _ ?_
   refine XS.istore X0.here hx rfl (B d2_13) rfl (l' := #[rv a1, iv 0, rv a2, iv 0, iv 2, iv 0, iv c0]) rfl ?_
   refine XS.iload X0.here hx rfl (B d2_15) rfl ?_
   exact XS.sipush X0.here hx rfl (B d2_17) k)
  have pre6 : Go p e bl s1 (mkF m 26 #[rv a1, iv 0, rv a2, iv 0, iv 2, iv 0, iv c0] []) s1 EF := fun t k => pre5 t (XS.icmpYes X0.here hx rfl (pc0 := 20) (pc' := 26) rfl (B d2_20) rfl (flt (hle c0 (mg 0 rfl))).2.2.2 (by decide) (by decide) k)
  have pre7 : Go p e bl s1 (mkF m 31 #[rv a1, iv 0, rv a2, iv 0, iv 2, iv 0, iv c0] [(.int (c0.toInt8.toInt32)), (.int 0), (.ref a2)]) s1 EF := fun t k => pre6 t (by
   refine XS.aloadN X0.here hx rfl (B d2_26) rfl rfl ?_
   refine XS.iloadN X0.here hx rfl (B d2_27) rfl ?_
   refine XS.iload X0.here hx rfl (B d2_28) rfl ?_
   exact XS.i2b X0.here hx rfl (B d2_30) rfl k)
  obtain ⟨cl8, Ar8, q8, Sz8, M8, H8, G8⟩ := id V2
  have hin8 := inb_of (j := (0 : Int32)) Sz8 ⟨by decide, by decide⟩
  obtain ⟨T8, h8, X8, e8, W8, st8⟩ := stB X0 hx hZ e0 Ar8 (j := 0) hin8 (g := (mkF m 31 #[rv a1, iv 0, rv a2, iv 0, iv 2, iv 0, iv c0] [(.int (c0.toInt8.toInt32)), (.int 0), (.ref a2)])) rfl rfl (B d2_31)
  rw [own_i2b2] at W8
  have pre9 : Go p e bl T8 (mkF m 32 #[rv a1, iv 0, rv a2, iv 0, iv 2, iv 0, iv c0] []) s1 EF := fun t k => pre7 t (st8 t k)
  have O10 : Old Z n0 h8 := O0.wr W8 g_a2
  have Z10 : n0 ≤ h8.size := Nat.le_trans Z0 (Keep.of_wr W8).1
  have K10 : Keep h0 h8 [a2] := (Keep.refl h0 [a2]).wr W8 (Or.inl (mg 0 rfl))
  have V8 : Arv Z h8 a2 k2 .byte (2 : Int32) [(.int (c0.toInt8.toInt32)), (.int 0)] (.int 0) := Arv.set Ar8 q8 Sz8 M8 H8 G8 (fits_nar_byte _) W8 0 rfl (wl rfl)
  have N8 := Fr.snoc X8 N0 g_a2
  have pre11 : Go p e bl T8 (mkF m 7 #[rv a1, iv 1, rv a2, iv 1, iv 2, iv 1, iv c0] [(.int 2), (.int 1)]) s1 EF := fun t k => pre9 t (by
   refine XS.iinc X8.here hx rfl (B d2_32) rfl (l' := #[rv a1, iv 1, rv a2, iv 0, iv 2, iv 0, iv c0]) rfl ?_
   refine XS.iinc X8.here hx rfl (B d2_35) rfl (l' := #[rv a1, iv 1, rv a2, iv 1, iv 2, iv 0, iv c0]) rfl ?_
   refine XS.iinc X8.here hx rfl (B d2_38) rfl (l' := #[rv a1, iv 1, rv a2, iv 1, iv 2, iv 1, iv c0]) rfl ?_
   refine XS.goto X8.here hx rfl (pc0 := 41) (pc' := 3) rfl (B d2_41) (by decide) (by decide) ?_
   refine XS.iload X8.here hx rfl (B d2_3) rfl ?_
   exact XS.iload X8.here hx rfl (B d2_5) rfl k)
  have pre12 : Go p e bl T8 (mkF m 10 #[rv a1, iv 1, rv a2, iv 1, iv 2, iv 1, iv c0] []) s1 EF := fun t k => pre11 t (XS.icmpNo X8.here hx rfl (B d2_7) rfl (tlt (by decide : (1 : Int32) < (2 : Int32))).2.1 k)
  have pre13 : Go p e bl T8 (mkF m 12 #[rv a1, iv 1, rv a2, iv 1, iv 2, iv 1, iv c0] [(.int 1), (.ref a1)]) s1 EF := fun t k => pre12 t (by
   refine XS.aloadN X8.here hx rfl (B d2_10) rfl rfl ?_
   exact XS.iloadN X8.here hx rfl (B d2_11) rfl k)
  obtain ⟨cl14, Ar14, q14, Sz14, M14, H14, G14⟩ := id (V1.other W8 ne12)
  have hin14 := inb_of (j := (1 : Int32)) Sz14 ⟨by decide, by decide⟩
  have hat14 := Has.at (v := (.int c1)) H14 hin14 rfl
  have pre15 : Go p e bl T8 (mkF m 20 #[rv a1, iv 1, rv a2, iv 1, iv 2, iv 1, iv c1] [(.int 255), (.int c1)]) s1 EF := fun t k => pre13 t (by
   refine X8.caload hx (j := 1) (v := (.int c1)) (hp e8 Ar14) (State.isArrayOf_alike hZ.alike Ar14.2.1) Ar14.2.2 hin14 hat14 (g := (mkF m 12 #[rv a1, iv 1, rv a2, iv 1, iv 2, iv 1, iv c0] [(.int 1), (.ref a1)])) rfl rfl (B d2_12) _ ?_
   refine XS.istore X8.here hx rfl (B d2_13) rfl (l' := #[rv a1, iv 1, rv a2, iv 1, iv 2, iv 1, iv c1]) rfl ?_
   refine XS.iload X8.here hx rfl (B d2_15) rfl ?_
   exact XS.sipush X8.here hx rfl (B d2_17) k)
  have pre16 : Go p e bl T8 (mkF m 26 #[rv a1, iv 1, rv a2, iv 1, iv 2, iv 1, iv c1] []) s1 EF := fun t k => pre15 t (XS.icmpYes X8.here hx rfl (pc0 := 20) (pc' := 26) rfl (B d2_20) rfl (flt (hle c1 (mg 1 rfl))).2.2.2 (by decide) (by decide) k)
  have pre17 : Go p e bl T8 (mkF m 31 #[rv a1, iv 1, rv a2, iv 1, iv 2, iv 1, iv c1] [(.int (c1.toInt8.toInt32)), (.int 1), (.ref a2)]) s1 EF := fun t k => pre16 t (by
   refine XS.aloadN X8.here hx rfl (B d2_26) rfl rfl ?_
   refine XS.iloadN X8.here hx rfl (B d2_27) rfl ?_
   refine XS.iload X8.here hx rfl (B d2_28) rfl ?_
   exact XS.i2b X8.here hx rfl (B d2_30) rfl k)
  obtain ⟨cl18, Ar18, q18, Sz18, M18, H18, G18⟩ := id V8
  have hin18 := inb_of (j := (1 : Int32)) Sz18 ⟨by decide, by decide⟩
  obtain ⟨T18, h18, X18, e18, W18, st18⟩ := stB X8 hx hZ e8 Ar18 (j := 1) hin18 (g := (mkF m 31 #[rv a1, iv 1, rv a2, iv 1, iv 2, iv 1, iv c1] [(.int (c1.toInt8.toInt32)), (.int 1), (.ref a2)])) rfl rfl (B d2_31)
  rw [own_i2b2] at W18
  have pre19 : Go p e bl T18 (mkF m 32 #[rv a1, iv 1, rv a2, iv 1, iv 2, iv 1, iv c1] []) s1 EF := fun t k => pre17 t (st18 t k)
  have O20 : Old Z n0 h18 := O10.wr W18 g_a2
  have Z20 : n0 ≤ h18.size := Nat.le_trans Z10 (Keep.of_wr W18).1
  have K20 : Keep h0 h18 [a2] := K10.wr W18 (Or.inl (mg 0 rfl))
  have V18 : Arv Z h18 a2 k2 .byte (2 : Int32) [(.int (c0.toInt8.toInt32)), (.int (c1.toInt8.toInt32))] (.int 0) := Arv.set Ar18 q18 Sz18 M18 H18 G18 (fits_nar_byte _) W18 1 rfl (wl rfl)
  have N18 := Fr.snoc X18 N8 g_a2
  have pre21 : Go p e bl T18 (mkF m 7 #[rv a1, iv 2, rv a2, iv 2, iv 2, iv 2, iv c1] [(.int 2), (.int 2)]) s1 EF := fun t k => pre19 t (by
   refine XS.iinc X18.here hx rfl (B d2_32) rfl (l' := #[rv a1, iv 2, rv a2, iv 1, iv 2, iv 1, iv c1]) rfl ?_
   refine XS.iinc X18.here hx rfl (B d2_35) rfl (l' := #[rv a1, iv 2, rv a2, iv 2, iv 2, iv 1, iv c1]) rfl ?_
   refine XS.iinc X18.here hx rfl (B d2_38) rfl (l' := #[rv a1, iv 2, rv a2, iv 2, iv 2, iv 2, iv c1]) rfl ?_
   refine XS.goto X18.here hx rfl (pc0 := 41) (pc' := 3) rfl (B d2_41) (by decide) (by decide) ?_
   refine XS.iload X18.here hx rfl (B d2_3) rfl ?_
   exact XS.iload X18.here hx rfl (B d2_5) rfl k)
  have pre22 : Go p e bl T18 (mkF m 44 #[rv a1, iv 2, rv a2, iv 2, iv 2, iv 2, iv c1] []) s1 EF := fun t k => pre21 t (XS.icmpYes X18.here hx rfl (pc0 := 7) (pc' := 44) rfl (B d2_7) rfl (flt (by decide : ¬ ((2 : Int32) < (2 : Int32)))).2.1 (by decide) (by decide) k)
  have pre23 : Go p e bl T18 (mkF m 46 #[rv a1, iv 2, rv a2, iv 2, iv 2, iv 2, iv c1] [(.int 2)]) s1 EF := fun t k => pre22 t (by
   exact XS.iload X18.here hx rfl (B d2_44) rfl k)
  exact fin1 X18 (v := some (.int 2)) hrt hlk (wl rfl) (wl rfl) (by rw [e18]; exact ⟨rfl, N18, K20, V18⟩) (fun fs hr => hEF ▸ pre23 _ (retOut X18 hx Bd.returns rfl (Or.inl ⟨rfl, Or.inl rfl, _, rfl⟩) (B d2_46) hr))
abbrev rKKb2 : Room := { frames := 1, cells := 1, slots := 10, locals := 18 }
theorem efKb2 (m : MethodId) (a1 : Addr) : entryFrame m #[(.ref a1), (.int 0), (.int 2)] 6 = mkF m 0 #[rv a1, iv 0, iv 2, .unset, .unset, .unset] [] := by first | (simp [entryFrame, mkF, argsToLocals, Value.category]; done) | rfl
def QKb2 (Z : State) (a1 : Addr) (cz : Int32) (fv : Value) (k1 : ClassId) (c0 : Int32) (c1 : Int32) (h0 : Heap) (n0 : Nat) (v : Option Value) (h : Heap) (L : List Loc) : Prop := ∃ b k, v = some (.ref b) ∧ Fr n0 L ∧ Keep h0 h [] ∧ h0.size ≤ b ∧ Arv Z h b k .byte (2 : Int32) [(.int (c0.toInt8.toInt32)), (.int (c1.toInt8.toInt32))] (.int 0)
set_option maxRecDepth 65536 in
set_option maxHeartbeats 40000000 in
theorem rmKb2 (l : Launch) (Z : State) (a0 : Array Value) (hw : HW a0 Z) (ws : List Jvm.Cond) (a1 : Addr) (cz : Int32) (fv : Value) (k1 : ClassId) (c0 : Int32) (c1 : Int32) (h0 : Heap) (n0 : Nat) (Z0 : n0 ≤ h0.size) (O0 : Old Z n0 h0) (J0 : Jd Z cz fv) (V1 : Arv Z h0 a1 k1 .char (2 : Int32) [(.int c0), (.int c1)] (.int 0)) (hle : (∀ c ∈ [c0, c1], ¬ (255 : Int32) < c)) :
    MF l Z mN3 jdk_52_method_16_code 6 (some (.array .byte)) ws rKKb2 #[(.ref a1), (.int 0), (.int 2)] h0 (QKb2 Z a1 cz fv k1 c0 c1 h0 n0) := by
  refine MetFree.of_bodySF (plainFor_of_name pn2) hisR ?_
  intro p e s m args bl meth c s1 Bd hml0 hP hK
  obtain ⟨rfl, hZ, hh⟩ := hP
  have hx := Bd.exec
  have hby := Bd.bytes
  have B := @hb c _ hby
  have hM := fun {n : Nat} (h : n = 6) => h.trans hml0.symm
  have hown : s.vm.findClass "java/lang/StringUTF16" = some m.cls := findClass_of_methodNamed Bd.named
  have hlk : meth.locks = false := BodyLoose.notSynchronized Bd
  have hrt : ∀ {v : Option Value}, meth.sig.returnType = none → v = none := fun h => by rw [Bd.returns] at h; cases h
  have X0 : Stand p l e rKKb2 s m #[(.ref a1), (.int 0), (.int 2)] bl meth c s1 [] 0 0 := Stand.of_body Bd
  have e0 : s1.heap = h0 := by rw [← hh, Bd.state]; rfl
  have N0 := Fr.nil n0
  obtain ⟨EF, hEF⟩ : ∃ f, f = entryFrame m #[(.ref a1), (.int 0), (.int 2)] 6 := ⟨_, rfl⟩
  have pre0 : Go p e bl s1 (mkF m 0 #[rv a1, iv 0, iv 2, .unset, .unset, .unset] []) s1 EF := fun t k => by rw [hEF]; exact castTop (efKb2 m a1) k
  have pre1 : Go p e bl s1 (mkF m 1 #[rv a1, iv 0, iv 2, .unset, .unset, .unset] [(.int 2)]) s1 EF := fun t k => pre0 t (by
   exact XS.iloadN X0.here hx rfl (B d3_0) rfl k)
  obtain ⟨T2, h2, k2, X2, e2, Et2, A2, st2⟩ := newP X0 hx hZ (hw _ (mW 23 rfl)) e0 (g := (mkF m 1 #[rv a1, iv 0, iv 2, .unset, .unset, .unset] [(.int 2)])) rfl (B d3_1) rfl (by decide) (cap := 2) (by decide) (by decide) (by decide) (by decide)
  obtain ⟨b2, g2⟩ : ∃ z, z = h0.size := ⟨_, rfl⟩
  rw [← g2] at A2 st2
  have g_b2 : n0 ≤ b2 := Nat.le_trans Z0 (Nat.le_of_eq g2.symm)
  have sz_b2 : h0.size ≤ b2 := Nat.le_trans (Keep.refl h0 []).1 (Nat.le_of_eq g2.symm)
  have ne_a1_b2 : a1 ≠ b2 := Nat.ne_of_lt (Nat.lt_of_lt_of_le V1.lt (Nat.le_of_eq g2.symm))
  have pre3 : Go p e bl T2 (mkF m 3 #[rv a1, iv 0, iv 2, .unset, .unset, .unset] [(.ref b2)]) s1 EF := fun t k => pre1 t (st2 t k)
  have O4 : Old Z n0 h2 := O0.ext Et2
  have Z4 : n0 ≤ h2.size := Nat.le_trans Z0 Et2.1
  have K4 : Keep h0 h2 [] := (Keep.refl h0 []).ext Et2
  have V2 : Arv Z h2 b2 k2 .byte (2 : Int32) [(.int 0), (.int 0)] (.int 0) := (Arv.new A2 (by decide)).pad (pad_rep [] (.int 0) 2)
  have pre5 : Go p e bl T2 (mkF m 9 #[rv a1, iv 0, iv 2, rv b2, .unset, .unset] [(.int 2), (.int 0), (.ref b2), (.int 0), (.ref a1)]) s1 EF := fun t k => pre3 t (by
   refine XS.astoreN X2.here hx rfl (B d3_3) rfl rfl (l' := #[rv a1, iv 0, iv 2, rv b2, .unset, .unset]) rfl ?_
   refine XS.aloadN X2.here hx rfl (B d3_4) rfl rfl ?_
   refine XS.iloadN X2.here hx rfl (B d3_5) rfl ?_
   refine XS.aloadN X2.here hx rfl (B d3_6) rfl rfl ?_
   refine XS.iconst X2.here hx rfl (B d3_7) ?_
   exact XS.iloadN X2.here hx rfl (B d3_8) rfl k)
  obtain ⟨_, _, ⟨T6, L6, k6, n6⟩, -, X6, ⟨Lc6, hQ6, l6, y6, z6⟩, st6⟩ := Jvm.LawKit.callS X2 hx (y := mN2) hown (mvT hZ (hw _ (mW 24 rfl))) (mvT hZ (hw _ (mW 25 rfl))) (mvT hZ (hw _ (mW 21 rfl))) (mvT hZ (hw _ (mW 26 rfl))) (by decide) (backOf (W := 0) (rmKa2 l Z a0 hw [] a1 b2 cz fv k1 k2 c0 c1 h2 n0 Z4 O4 J0 (V1.ext Et2) V2 ne_a1_b2 g_b2 hle) hZ (hw _ (mW 26 rfl)) (hw _ (mW 21 rfl)) (by decide) (by decide)) (g := (mkF m 9 #[rv a1, iv 0, iv 2, rv b2, .unset, .unset] [(.int 2), (.int 0), (.ref b2), (.int 0), (.ref a1)])) rfl (hM rfl) (argsL := [(.ref a1), (.int 0), (.ref b2), (.int 0), (.int 2)]) (rest := []) (lenOf pd1 rfl) rfl (Nat.le_of_eq rfl) (B d3_9) (fun _ _ => ⟨rfl, e2, wl rfl, wl rfl⟩)
  dsimp only [Pt.U, Pt.locs, Pt.cells, Pt.slots] at X6 l6 y6 z6 st6 hQ6
  subst l6 y6 z6
  obtain ⟨rfl, N6q, K6, VL6⟩ := hQ6
  have N6 := Fr.app N0 N6q
  have pre7 : Go p e bl T6 (mkF m 12 #[rv a1, iv 0, iv 2, rv b2, .unset, .unset] [(.int 2)]) s1 EF := fun t k => pre5 t (st6 t k)
  have O8 : Old Z n0 T6.heap := O4.keep K6 (allS g_b2 all0)
  have Z8 : n0 ≤ T6.heap.size := Nat.le_trans Z4 K6.1
  have K8 : Keep h0 T6.heap [] := K4.trans K6 (allS (Or.inr sz_b2) all0)
  have pre9 : Go p e bl T6 (mkF m 17 #[rv a1, iv 0, iv 2, rv b2, iv 2, .unset] [(.int 2), (.int 2)]) s1 EF := fun t k => pre7 t (by
   refine XS.istore X6.here hx rfl (B d3_12) rfl (l' := #[rv a1, iv 0, iv 2, rv b2, iv 2, .unset]) rfl ?_
   refine XS.iload X6.here hx rfl (B d3_14) rfl ?_
   exact XS.iloadN X6.here hx rfl (B d3_16) rfl k)
  have pre10 : Go p e bl T6 (mkF m 57 #[rv a1, iv 0, iv 2, rv b2, iv 2, .unset] []) s1 EF := fun t k => pre9 t (XS.icmpYes X6.here hx rfl (pc0 := 17) (pc' := 57) rfl (B d3_17) rfl (teq (by decide : (2 : Int32) = (2 : Int32))).1 (by decide) (by decide) k)
  have pre11 : Go p e bl T6 (mkF m 58 #[rv a1, iv 0, iv 2, rv b2, iv 2, .unset] [(.ref b2)]) s1 EF := fun t k => pre10 t (by
   exact XS.aloadN X6.here hx rfl (B d3_57) rfl rfl k)
  exact fin1 X6 (v := some (.ref b2)) hrt hlk (wl rfl) (wl rfl) (by exact ⟨_, _, rfl, N6, K8, sz_b2, VL6⟩) (fun fs hr => hEF ▸ pre11 _ (retOut X6 hx Bd.returns rfl (Or.inr (Or.inr (Or.inr (Or.inr ⟨rfl, rfl, rfl⟩)))) (B d3_58) hr))
abbrev rKKa1 : Room := { frames := 0, cells := 0, slots := 0, locals := 0 }
theorem efKa1 (m : MethodId) (a1 : Addr) (a2 : Addr) : entryFrame m #[(.ref a1), (.int 0), (.ref a2), (.int 0), (.int 1)] 7 = mkF m 0 #[rv a1, iv 0, rv a2, iv 0, iv 1, .unset, .unset] [] := by first | (simp [entryFrame, mkF, argsToLocals, Value.category]; done) | rfl
def QKa1 (Z : State) (a1 : Addr) (a2 : Addr) (cz : Int32) (fv : Value) (k1 : ClassId) (k2 : ClassId) (c0 : Int32) (h0 : Heap) (n0 : Nat) (v : Option Value) (h : Heap) (L : List Loc) : Prop := v = some (.int 1) ∧ Fr n0 L ∧ Keep h0 h [a2] ∧ Arv Z h a2 k2 .byte (1 : Int32) [(.int (c0.toInt8.toInt32))] (.int 0)
set_option maxRecDepth 65536 in
set_option maxHeartbeats 40000000 in
theorem rmKa1 (l : Launch) (Z : State) (a0 : Array Value) (hw : HW a0 Z) (ws : List Jvm.Cond) (a1 : Addr) (a2 : Addr) (cz : Int32) (fv : Value) (k1 : ClassId) (k2 : ClassId) (c0 : Int32) (h0 : Heap) (n0 : Nat) (Z0 : n0 ≤ h0.size) (O0 : Old Z n0 h0) (J0 : Jd Z cz fv) (V1 : Arv Z h0 a1 k1 .char (1 : Int32) [(.int c0)] (.int 0)) (V2 : Arv Z h0 a2 k2 .byte (1 : Int32) [(.int 0)] (.int 0)) (ne12 : a1 ≠ a2) (g_a2 : n0 ≤ a2) (hle : (∀ c ∈ [c0], ¬ (255 : Int32) < c)) :
    MF l Z mN2 jdk_52_method_21_code 7 (some .int) ws rKKa1 #[(.ref a1), (.int 0), (.ref a2), (.int 0), (.int 1)] h0 (QKa1 Z a1 a2 cz fv k1 k2 c0 h0 n0) := by
  refine MetFree.of_bodySF (plainFor_of_name pn2) hisR ?_
  intro p e s m args bl meth c s1 Bd hml0 hP hK
  obtain ⟨rfl, hZ, hh⟩ := hP
  have hx := Bd.exec
  have hby := Bd.bytes
  have B := @hb c _ hby
  have hown : s.vm.findClass "java/lang/StringUTF16" = some m.cls := findClass_of_methodNamed Bd.named
  have hlk : meth.locks = false := BodyLoose.notSynchronized Bd
  have hrt : ∀ {v : Option Value}, meth.sig.returnType = none → v = none := fun h => by rw [Bd.returns] at h; cases h
  have X0 : Stand p l e rKKa1 s m #[(.ref a1), (.int 0), (.ref a2), (.int 0), (.int 1)] bl meth c s1 [] 0 0 := Stand.of_body Bd
  have e0 : s1.heap = h0 := by rw [← hh, Bd.state]; rfl
  have N0 := Fr.nil n0
  obtain ⟨EF, hEF⟩ : ∃ f, f = entryFrame m #[(.ref a1), (.int 0), (.ref a2), (.int 0), (.int 1)] 7 := ⟨_, rfl⟩
  have pre0 : Go p e bl s1 (mkF m 0 #[rv a1, iv 0, rv a2, iv 0, iv 1, .unset, .unset] []) s1 EF := fun t k => by rw [hEF]; exact castTop (efKa1 m a1 a2) k
  have pre1 : Go p e bl s1 (mkF m 7 #[rv a1, iv 0, rv a2, iv 0, iv 1, iv 0, .unset] [(.int 1), (.int 0)]) s1 EF := fun t k => pre0 t (by
   refine XS.iconst X0.here hx rfl (B d2_0) ?_
   refine XS.istore X0.here hx rfl (B d2_1) rfl (l' := #[rv a1, iv 0, rv a2, iv 0, iv 1, iv 0, .unset]) rfl ?_
   refine XS.iload X0.here hx rfl (B d2_3) rfl ?_
   exact XS.iload X0.here hx rfl (B d2_5) rfl k)
  have pre2 : Go p e bl s1 (mkF m 10 #[rv a1, iv 0, rv a2, iv 0, iv 1, iv 0, .unset] []) s1 EF := fun t k => pre1 t (XS.icmpNo X0.here hx rfl (B d2_7) rfl (tlt (by decide : (0 : Int32) < (1 : Int32))).2.1 k)
  have pre3 : Go p e bl s1 (mkF m 12 #[rv a1, iv 0, rv a2, iv 0, iv 1, iv 0, .unset] [(.int 0), (.ref a1)]) s1 EF := fun t k => pre2 t (by
   refine XS.aloadN X0.here hx rfl (B d2_10) rfl rfl ?_
   exact XS.iloadN X0.here hx rfl (B d2_11) rfl k)
  obtain ⟨cl4, Ar4, q4, Sz4, M4, H4, G4⟩ := id V1
  have hin4 := inb_of (j := (0 : Int32)) Sz4 ⟨by decide, by decide⟩
  have hat4 := Has.at (v := (.int c0)) H4 hin4 rfl
  have pre5 : Go p e bl s1 (mkF m 20 #[rv a1, iv 0, rv a2, iv 0, iv 1, iv 0, iv c0] [(.int 255), (.int c0)]) s1 EF := fun t k => pre3 t (by
   refine X0.caload hx (j := 0) (v := (.int c0)) (hp e0 Ar4) (State.isArrayOf_alike hZ.alike Ar4.2.1) Ar4.2.2 hin4 hat4 (g := (mkF m 12 #[rv a1, iv 0, rv a2, iv 0, iv 1, iv 0, .unset] [(.int 0), (.ref a1)])) rfl rfl (B d2_12) _ ?_
   refine XS.istore X0.here hx rfl (B d2_13) rfl (l' := #[rv a1, iv 0, rv a2, iv 0, iv 1, iv 0, iv c0]) rfl ?_
   refine XS.iload X0.here hx rfl (B d2_15) rfl ?_
   exact XS.sipush X0.here hx rfl (B d2_17) k)
  have pre6 : Go p e bl s1 (mkF m 26 #[rv a1, iv 0, rv a2, iv 0, iv 1, iv 0, iv c0] []) s1 EF := fun t k => pre5 t (XS.icmpYes X0.here hx rfl (pc0 := 20) (pc' := 26) rfl (B d2_20) rfl (flt (hle c0 (mg 0 rfl))).2.2.2 (by decide) (by decide) k)
  have pre7 : Go p e bl s1 (mkF m 31 #[rv a1, iv 0, rv a2, iv 0, iv 1, iv 0, iv c0] [(.int (c0.toInt8.toInt32)), (.int 0), (.ref a2)]) s1 EF := fun t k => pre6 t (by
   refine XS.aloadN X0.here hx rfl (B d2_26) rfl rfl ?_
   refine XS.iloadN X0.here hx rfl (B d2_27) rfl ?_
   refine XS.iload X0.here hx rfl (B d2_28) rfl ?_
   exact XS.i2b X0.here hx rfl (B d2_30) rfl k)
  obtain ⟨cl8, Ar8, q8, Sz8, M8, H8, G8⟩ := id V2
  have hin8 := inb_of (j := (0 : Int32)) Sz8 ⟨by decide, by decide⟩
  obtain ⟨T8, h8, X8, e8, W8, st8⟩ := stB X0 hx hZ e0 Ar8 (j := 0) hin8 (g := (mkF m 31 #[rv a1, iv 0, rv a2, iv 0, iv 1, iv 0, iv c0] [(.int (c0.toInt8.toInt32)), (.int 0), (.ref a2)])) rfl rfl (B d2_31)
  rw [own_i2b2] at W8
  have pre9 : Go p e bl T8 (mkF m 32 #[rv a1, iv 0, rv a2, iv 0, iv 1, iv 0, iv c0] []) s1 EF := fun t k => pre7 t (st8 t k)
  have O10 : Old Z n0 h8 := O0.wr W8 g_a2
  have Z10 : n0 ≤ h8.size := Nat.le_trans Z0 (Keep.of_wr W8).1
  have K10 : Keep h0 h8 [a2] := (Keep.refl h0 [a2]).wr W8 (Or.inl (mg 0 rfl))
  have V8 : Arv Z h8 a2 k2 .byte (1 : Int32) [(.int (c0.toInt8.toInt32))] (.int 0) := Arv.set Ar8 q8 Sz8 M8 H8 G8 (fits_nar_byte _) W8 0 rfl (wl rfl)
  have N8 := Fr.snoc X8 N0 g_a2
  have pre11 : Go p e bl T8 (mkF m 7 #[rv a1, iv 1, rv a2, iv 1, iv 1, iv 1, iv c0] [(.int 1), (.int 1)]) s1 EF := fun t k => pre9 t (by
   refine XS.iinc X8.here hx rfl (B d2_32) rfl (l' := #[rv a1, iv 1, rv a2, iv 0, iv 1, iv 0, iv c0]) rfl ?_
   refine XS.iinc X8.here hx rfl (B d2_35) rfl (l' := #[rv a1, iv 1, rv a2, iv 1, iv 1, iv 0, iv c0]) rfl ?_
   refine XS.iinc X8.here hx rfl (B d2_38) rfl (l' := #[rv a1, iv 1, rv a2, iv 1, iv 1, iv 1, iv c0]) rfl ?_
   refine XS.goto X8.here hx rfl (pc0 := 41) (pc' := 3) rfl (B d2_41) (by decide) (by decide) ?_
   refine XS.iload X8.here hx rfl (B d2_3) rfl ?_
   exact XS.iload X8.here hx rfl (B d2_5) rfl k)
  have pre12 : Go p e bl T8 (mkF m 44 #[rv a1, iv 1, rv a2, iv 1, iv 1, iv 1, iv c0] []) s1 EF := fun t k => pre11 t (XS.icmpYes X8.here hx rfl (pc0 := 7) (pc' := 44) rfl (B d2_7) rfl (flt (by decide : ¬ ((1 : Int32) < (1 : Int32)))).2.1 (by decide) (by decide) k)
  have pre13 : Go p e bl T8 (mkF m 46 #[rv a1, iv 1, rv a2, iv 1, iv 1, iv 1, iv c0] [(.int 1)]) s1 EF := fun t k => pre12 t (by
   exact XS.iload X8.here hx rfl (B d2_44) rfl k)
  exact fin1 X8 (v := some (.int 1)) hrt hlk (wl rfl) (wl rfl) (by rw [e8]; exact ⟨rfl, N8, K10, V8⟩) (fun fs hr => hEF ▸ pre13 _ (retOut X8 hx Bd.returns rfl (Or.inl ⟨rfl, Or.inl rfl, _, rfl⟩) (B d2_46) hr))
abbrev rKKb1 : Room := { frames := 1, cells := 1, slots := 10, locals := 18 }
theorem efKb1 (m : MethodId) (a1 : Addr) : entryFrame m #[(.ref a1), (.int 0), (.int 1)] 6 = mkF m 0 #[rv a1, iv 0, iv 1, .unset, .unset, .unset] [] := by first | (simp [entryFrame, mkF, argsToLocals, Value.category]; done) | rfl
def QKb1 (Z : State) (a1 : Addr) (cz : Int32) (fv : Value) (k1 : ClassId) (c0 : Int32) (h0 : Heap) (n0 : Nat) (v : Option Value) (h : Heap) (L : List Loc) : Prop := ∃ b k, v = some (.ref b) ∧ Fr n0 L ∧ Keep h0 h [] ∧ h0.size ≤ b ∧ Arv Z h b k .byte (1 : Int32) [(.int (c0.toInt8.toInt32))] (.int 0)
set_option maxRecDepth 65536 in
set_option maxHeartbeats 40000000 in
theorem rmKb1 (l : Launch) (Z : State) (a0 : Array Value) (hw : HW a0 Z) (ws : List Jvm.Cond) (a1 : Addr) (cz : Int32) (fv : Value) (k1 : ClassId) (c0 : Int32) (h0 : Heap) (n0 : Nat) (Z0 : n0 ≤ h0.size) (O0 : Old Z n0 h0) (J0 : Jd Z cz fv) (V1 : Arv Z h0 a1 k1 .char (1 : Int32) [(.int c0)] (.int 0)) (hle : (∀ c ∈ [c0], ¬ (255 : Int32) < c)) :
    MF l Z mN3 jdk_52_method_16_code 6 (some (.array .byte)) ws rKKb1 #[(.ref a1), (.int 0), (.int 1)] h0 (QKb1 Z a1 cz fv k1 c0 h0 n0) := by
  refine MetFree.of_bodySF (plainFor_of_name pn2) hisR ?_
  intro p e s m args bl meth c s1 Bd hml0 hP hK
  obtain ⟨rfl, hZ, hh⟩ := hP
  have hx := Bd.exec
  have hby := Bd.bytes
  have B := @hb c _ hby
  have hM := fun {n : Nat} (h : n = 6) => h.trans hml0.symm
  have hown : s.vm.findClass "java/lang/StringUTF16" = some m.cls := findClass_of_methodNamed Bd.named
  have hlk : meth.locks = false := BodyLoose.notSynchronized Bd
  have hrt : ∀ {v : Option Value}, meth.sig.returnType = none → v = none := fun h => by rw [Bd.returns] at h; cases h
  have X0 : Stand p l e rKKb1 s m #[(.ref a1), (.int 0), (.int 1)] bl meth c s1 [] 0 0 := Stand.of_body Bd
  have e0 : s1.heap = h0 := by rw [← hh, Bd.state]; rfl
  have N0 := Fr.nil n0
  obtain ⟨EF, hEF⟩ : ∃ f, f = entryFrame m #[(.ref a1), (.int 0), (.int 1)] 6 := ⟨_, rfl⟩
  have pre0 : Go p e bl s1 (mkF m 0 #[rv a1, iv 0, iv 1, .unset, .unset, .unset] []) s1 EF := fun t k => by rw [hEF]; exact castTop (efKb1 m a1) k
  have pre1 : Go p e bl s1 (mkF m 1 #[rv a1, iv 0, iv 1, .unset, .unset, .unset] [(.int 1)]) s1 EF := fun t k => pre0 t (by
   exact XS.iloadN X0.here hx rfl (B d3_0) rfl k)
  obtain ⟨T2, h2, k2, X2, e2, Et2, A2, st2⟩ := newP X0 hx hZ (hw _ (mW 23 rfl)) e0 (g := (mkF m 1 #[rv a1, iv 0, iv 1, .unset, .unset, .unset] [(.int 1)])) rfl (B d3_1) rfl (by decide) (cap := 1) (by decide) (by decide) (by decide) (by decide)
  obtain ⟨b2, g2⟩ : ∃ z, z = h0.size := ⟨_, rfl⟩
  rw [← g2] at A2 st2
  have g_b2 : n0 ≤ b2 := Nat.le_trans Z0 (Nat.le_of_eq g2.symm)
  have sz_b2 : h0.size ≤ b2 := Nat.le_trans (Keep.refl h0 []).1 (Nat.le_of_eq g2.symm)
  have ne_a1_b2 : a1 ≠ b2 := Nat.ne_of_lt (Nat.lt_of_lt_of_le V1.lt (Nat.le_of_eq g2.symm))
  have pre3 : Go p e bl T2 (mkF m 3 #[rv a1, iv 0, iv 1, .unset, .unset, .unset] [(.ref b2)]) s1 EF := fun t k => pre1 t (st2 t k)
  have O4 : Old Z n0 h2 := O0.ext Et2
  have Z4 : n0 ≤ h2.size := Nat.le_trans Z0 Et2.1
  have K4 : Keep h0 h2 [] := (Keep.refl h0 []).ext Et2
  have V2 : Arv Z h2 b2 k2 .byte (1 : Int32) [(.int 0)] (.int 0) := (Arv.new A2 (by decide)).pad (pad_rep [] (.int 0) 1)
  have pre5 : Go p e bl T2 (mkF m 9 #[rv a1, iv 0, iv 1, rv b2, .unset, .unset] [(.int 1), (.int 0), (.ref b2), (.int 0), (.ref a1)]) s1 EF := fun t k => pre3 t (by
   refine XS.astoreN X2.here hx rfl (B d3_3) rfl rfl (l' := #[rv a1, iv 0, iv 1, rv b2, .unset, .unset]) rfl ?_
   refine XS.aloadN X2.here hx rfl (B d3_4) rfl rfl ?_
   refine XS.iloadN X2.here hx rfl (B d3_5) rfl ?_
   refine XS.aloadN X2.here hx rfl (B d3_6) rfl rfl ?_
   refine XS.iconst X2.here hx rfl (B d3_7) ?_
   exact XS.iloadN X2.here hx rfl (B d3_8) rfl k)
  obtain ⟨_, _, ⟨T6, L6, k6, n6⟩, -, X6, ⟨Lc6, hQ6, l6, y6, z6⟩, st6⟩ := Jvm.LawKit.callS X2 hx (y := mN2) hown (mvT hZ (hw _ (mW 24 rfl))) (mvT hZ (hw _ (mW 25 rfl))) (mvT hZ (hw _ (mW 21 rfl))) (mvT hZ (hw _ (mW 26 rfl))) (by decide) (backOf (W := 0) (rmKa1 l Z a0 hw [] a1 b2 cz fv k1 k2 c0 h2 n0 Z4 O4 J0 (V1.ext Et2) V2 ne_a1_b2 g_b2 hle) hZ (hw _ (mW 26 rfl)) (hw _ (mW 21 rfl)) (by decide) (by decide)) (g := (mkF m 9 #[rv a1, iv 0, iv 1, rv b2, .unset, .unset] [(.int 1), (.int 0), (.ref b2), (.int 0), (.ref a1)])) rfl (hM rfl) (argsL := [(.ref a1), (.int 0), (.ref b2), (.int 0), (.int 1)]) (rest := []) (lenOf pd1 rfl) rfl (Nat.le_of_eq rfl) (B d3_9) (fun _ _ => ⟨rfl, e2, wl rfl, wl rfl⟩)
  dsimp only [Pt.U, Pt.locs, Pt.cells, Pt.slots] at X6 l6 y6 z6 st6 hQ6
  subst l6 y6 z6
  obtain ⟨rfl, N6q, K6, VL6⟩ := hQ6
  have N6 := Fr.app N0 N6q
  have pre7 : Go p e bl T6 (mkF m 12 #[rv a1, iv 0, iv 1, rv b2, .unset, .unset] [(.int 1)]) s1 EF := fun t k => pre5 t (st6 t k)
  have O8 : Old Z n0 T6.heap := O4.keep K6 (allS g_b2 all0)
  have Z8 : n0 ≤ T6.heap.size := Nat.le_trans Z4 K6.1
  have K8 : Keep h0 T6.heap [] := K4.trans K6 (allS (Or.inr sz_b2) all0)
  have pre9 : Go p e bl T6 (mkF m 17 #[rv a1, iv 0, iv 1, rv b2, iv 1, .unset] [(.int 1), (.int 1)]) s1 EF := fun t k => pre7 t (by
   refine XS.istore X6.here hx rfl (B d3_12) rfl (l' := #[rv a1, iv 0, iv 1, rv b2, iv 1, .unset]) rfl ?_
   refine XS.iload X6.here hx rfl (B d3_14) rfl ?_
   exact XS.iloadN X6.here hx rfl (B d3_16) rfl k)
  have pre10 : Go p e bl T6 (mkF m 57 #[rv a1, iv 0, iv 1, rv b2, iv 1, .unset] []) s1 EF := fun t k => pre9 t (XS.icmpYes X6.here hx rfl (pc0 := 17) (pc' := 57) rfl (B d3_17) rfl (teq (by decide : (1 : Int32) = (1 : Int32))).1 (by decide) (by decide) k)
  have pre11 : Go p e bl T6 (mkF m 58 #[rv a1, iv 0, iv 1, rv b2, iv 1, .unset] [(.ref b2)]) s1 EF := fun t k => pre10 t (by
   exact XS.aloadN X6.here hx rfl (B d3_57) rfl rfl k)
  exact fin1 X6 (v := some (.ref b2)) hrt hlk (wl rfl) (wl rfl) (by exact ⟨_, _, rfl, N6, K8, sz_b2, VL6⟩) (fun fs hr => hEF ▸ pre11 _ (retOut X6 hx Bd.returns rfl (Or.inr (Or.inr (Or.inr (Or.inr ⟨rfl, rfl, rfl⟩)))) (B d3_58) hr))
def QKb (Z : State) (n : Int32) (cs : List Int32) (h0 : Heap) (n0 : Nat) (v : Option Value) (h : Heap) (L : List Loc) : Prop := ∃ b k, v = some (.ref b) ∧ Fr n0 L ∧ Keep h0 h [] ∧ h0.size ≤ b ∧ Arv Z h b k .byte n (BV (i8s cs)) (.int 0)
theorem rmKB (l : Launch) (Z : State) (a0 : Array Value) (hw : HW a0 Z) (ws : List Jvm.Cond) (a1 : Addr) (cz : Int32) (fv : Value) (k1 : ClassId) (n : Int32) (cs : List Int32) (h0 : Heap) (n0 : Nat) (Z0 : n0 ≤ h0.size) (O0 : Old Z n0 h0) (J0 : Jd Z cz fv) (V1 : Arv Z h0 a1 k1 .char n (BV cs) (.int 0)) (hn : n.toInt = cs.length) (hl1 : 1 ≤ cs.length) (hl2 : cs.length ≤ 10) (hle : ∀ c ∈ cs, ¬ (255 : Int32) < c) :
    MF l Z mN3 jdk_52_method_16_code 6 (some (.array .byte)) ws rKKb10 #[(.ref a1), (.int 0), (.int n)] h0 (QKb Z n cs h0 n0) := by
  rcases own_len hn hl1 hl2 with ⟨u0, rfl, rfl⟩ | ⟨u0, u1, rfl, rfl⟩ | ⟨u0, u1, u2, rfl, rfl⟩ | ⟨u0, u1, u2, u3, rfl, rfl⟩ | ⟨u0, u1, u2, u3, u4, rfl, rfl⟩ | ⟨u0, u1, u2, u3, u4, u5, rfl, rfl⟩ | ⟨u0, u1, u2, u3, u4, u5, u6, rfl, rfl⟩ | ⟨u0, u1, u2, u3, u4, u5, u6, u7, rfl, rfl⟩ | ⟨u0, u1, u2, u3, u4, u5, u6, u7, u8, rfl, rfl⟩ | ⟨u0, u1, u2, u3, u4, u5, u6, u7, u8, u9, rfl, rfl⟩
  · exact rmKb1 l Z a0 hw ws a1 cz fv k1 u0 h0 n0 Z0 O0 J0 V1 hle
  · exact rmKb2 l Z a0 hw ws a1 cz fv k1 u0 u1 h0 n0 Z0 O0 J0 V1 hle
  · exact rmKb3 l Z a0 hw ws a1 cz fv k1 u0 u1 u2 h0 n0 Z0 O0 J0 V1 hle
  · exact rmKb4 l Z a0 hw ws a1 cz fv k1 u0 u1 u2 u3 h0 n0 Z0 O0 J0 V1 hle
  · exact rmKb5 l Z a0 hw ws a1 cz fv k1 u0 u1 u2 u3 u4 h0 n0 Z0 O0 J0 V1 hle
  · exact rmKb6 l Z a0 hw ws a1 cz fv k1 u0 u1 u2 u3 u4 u5 h0 n0 Z0 O0 J0 V1 hle
  · exact rmKb7 l Z a0 hw ws a1 cz fv k1 u0 u1 u2 u3 u4 u5 u6 h0 n0 Z0 O0 J0 V1 hle
  · exact rmKb8 l Z a0 hw ws a1 cz fv k1 u0 u1 u2 u3 u4 u5 u6 u7 h0 n0 Z0 O0 J0 V1 hle
  · exact rmKb9 l Z a0 hw ws a1 cz fv k1 u0 u1 u2 u3 u4 u5 u6 u7 u8 h0 n0 Z0 O0 J0 V1 hle
  · exact rmKb10 l Z a0 hw ws a1 cz fv k1 u0 u1 u2 u3 u4 u5 u6 u7 u8 u9 h0 n0 Z0 O0 J0 V1 hle

abbrev rKKc : Room := { frames := 0, cells := 0, slots := 0, locals := 0 }
theorem d4_0 : decode jdk_52_method_15_code 0 = .ok (.iload_n 1, 1) := by decide +kernel
theorem d4_1 : decode jdk_52_method_15_code 1 = .ok (.aload_n 0, 1) := by decide +kernel
theorem d4_2 : decode jdk_52_method_15_code 2 = .ok (.arraylength, 1) := by decide +kernel
theorem d4_3 : decode jdk_52_method_15_code 3 = .ok (.isub, 1) := by decide +kernel
theorem d4_4 : decode jdk_52_method_15_code 4 = .ok (.bipush 31, 2) := by decide +kernel
theorem d4_6 : decode jdk_52_method_15_code 6 = .ok (.iushr, 1) := by decide +kernel
theorem d4_7 : decode jdk_52_method_15_code 7 = .ok (.i2b, 1) := by decide +kernel
theorem d4_8 : decode jdk_52_method_15_code 8 = .ok (.ireturn, 1) := by decide +kernel
theorem efKc (m : MethodId) (a1 : Addr) (n : Int32) : entryFrame m #[(.ref a1), (.int n)] 2 = mkF m 0 #[rv a1, iv n] [] := by first | (simp [entryFrame, mkF, argsToLocals, Value.category]; done) | rfl
def QKc (Z : State) (a1 : Addr) (n : Int32) (cz : Int32) (fv : Value) (k : ClassId) (vs : List Value) (h0 : Heap) (n0 : Nat) (v : Option Value) (h : Heap) (L : List Loc) : Prop := v = some (.int 0) ∧ Fr n0 L ∧ h = h0
set_option maxRecDepth 65536 in
set_option maxHeartbeats 40000000 in
theorem rmKc (l : Launch) (Z : State) (a0 : Array Value) (hw : HW a0 Z) (ws : List Jvm.Cond) (a1 : Addr) (n : Int32) (cz : Int32) (fv : Value) (k : ClassId) (vs : List Value) (h0 : Heap) (n0 : Nat) (Z0 : n0 ≤ h0.size) (O0 : Old Z n0 h0) (J0 : Jd Z cz fv) (VV : Arv Z h0 a1 k .byte n vs (.int 0)) :
    MF l Z mN4 jdk_52_method_15_code 2 (some .byte) ws rKKc #[(.ref a1), (.int n)] h0 (QKc Z a1 n cz fv k vs h0 n0) := by
  refine MetFree.of_bodySF (plainFor_of_name pn2) hisR ?_
  intro p e s m args bl meth c s1 Bd hml0 hP hK
  obtain ⟨rfl, hZ, hh⟩ := hP
  have hx := Bd.exec
  have hby := Bd.bytes
  have B := @hb c _ hby
  have hown : s.vm.findClass "java/lang/StringUTF16" = some m.cls := findClass_of_methodNamed Bd.named
  have hlk : meth.locks = false := BodyLoose.notSynchronized Bd
  have hrt : ∀ {v : Option Value}, meth.sig.returnType = none → v = none := fun h => by rw [Bd.returns] at h; cases h
  have X0 : Stand p l e rKKc s m #[(.ref a1), (.int n)] bl meth c s1 [] 0 0 := Stand.of_body Bd
  have e0 : s1.heap = h0 := by rw [← hh, Bd.state]; rfl
  have N0 := Fr.nil n0
  obtain ⟨EF, hEF⟩ : ∃ f, f = entryFrame m #[(.ref a1), (.int n)] 2 := ⟨_, rfl⟩
  have pre0 : Go p e bl s1 (mkF m 0 #[rv a1, iv n] []) s1 EF := fun t k => by rw [hEF]; exact castTop (efKc m a1 n) k
  have pre1 : Go p e bl s1 (mkF m 2 #[rv a1, iv n] [(.ref a1), (.int n)]) s1 EF := fun t k => pre0 t (by
   refine XS.iloadN X0.here hx rfl (B d4_0) rfl ?_
   exact XS.aloadN X0.here hx rfl (B d4_1) rfl rfl k)
  obtain ⟨cl2, Ar2, q2, Sz2, M2, H2, G2⟩ := id VV
  have pre3 : Go p e bl s1 (mkF m 8 #[rv a1, iv n] [(.int ((((n - n).toUInt32 >>> ((31 : Int32) &&& 31).toUInt32).toInt32).toInt8.toInt32))]) s1 EF := fun t k => pre1 t (by
   refine X0.arraylength hx (hp e0 Ar2) (State.isArrayOf_alike hZ.alike Ar2.2.1) (g := (mkF m 2 #[rv a1, iv n] [(.ref a1), (.int n)])) rfl rfl (B d4_2) _ ?_
   rw [len_of Sz2 M2]
   refine XS.isub X0.here hx rfl (B d4_3) rfl ?_
   refine XS.bipush X0.here hx rfl (B d4_4) ?_
   refine XS.iushr X0.here hx rfl (B d4_6) rfl ?_
   exact XS.i2b X0.here hx rfl (B d4_7) rfl k)
  have hnr : Value.int (nar .byte ((((n - n).toUInt32 >>> ((31 : Int32) &&& 31).toUInt32).toInt32).toInt8.toInt32)) = (.int 0) := by rw [own_cd]
  exact fin1 X0 (v := some (.int 0)) hrt hlk (wl rfl) (wl rfl) (by rw [e0]; exact ⟨rfl, N0, rfl⟩) (fun fs hr => hEF ▸ pre3 _ (retN X0 hx (t := .byte) Bd.returns (by simp) (B d4_8) (hnr ▸ hr)))
abbrev rKKi : Room := { frames := 2, cells := 1, slots := 10, locals := 35 }
theorem d5_0 : decode jdk_42_method_149_code 0 = .ok (.aload_n 0, 1) := by decide +kernel
theorem d5_1 : decode jdk_42_method_149_code 1 = .ok (.invokespecial 1, 3) := by decide +kernel
theorem d5_4 : decode jdk_42_method_149_code 4 = .ok (.iload_n 3, 1) := by decide +kernel
theorem d5_5 : decode jdk_42_method_149_code 5 = .ok (.ifCond .ne 22, 3) := by decide +kernel
theorem d5_27 : decode jdk_42_method_149_code 27 = .ok (.getstatic 38, 3) := by decide +kernel
theorem d5_30 : decode jdk_42_method_149_code 30 = .ok (.ifCond .eq 28, 3) := by decide +kernel
theorem d5_33 : decode jdk_42_method_149_code 33 = .ok (.aload_n 1, 1) := by decide +kernel
theorem d5_34 : decode jdk_42_method_149_code 34 = .ok (.iload_n 2, 1) := by decide +kernel
theorem d5_35 : decode jdk_42_method_149_code 35 = .ok (.iload_n 3, 1) := by decide +kernel
theorem d5_36 : decode jdk_42_method_149_code 36 = .ok (.invokestatic 177, 3) := by decide +kernel
theorem d5_39 : decode jdk_42_method_149_code 39 = .ok (.astore 5, 2) := by decide +kernel
theorem d5_41 : decode jdk_42_method_149_code 41 = .ok (.aload_n 0, 1) := by decide +kernel
theorem d5_42 : decode jdk_42_method_149_code 42 = .ok (.aload 5, 2) := by decide +kernel
theorem d5_44 : decode jdk_42_method_149_code 44 = .ok (.iload_n 3, 1) := by decide +kernel
theorem d5_45 : decode jdk_42_method_149_code 45 = .ok (.invokestatic 47, 3) := by decide +kernel
theorem d5_48 : decode jdk_42_method_149_code 48 = .ok (.putfield 15, 3) := by decide +kernel
theorem d5_51 : decode jdk_42_method_149_code 51 = .ok (.aload_n 0, 1) := by decide +kernel
theorem d5_52 : decode jdk_42_method_149_code 52 = .ok (.aload 5, 2) := by decide +kernel
theorem d5_54 : decode jdk_42_method_149_code 54 = .ok (.putfield 9, 3) := by decide +kernel
theorem d5_57 : decode jdk_42_method_149_code 57 = .ok (.return_, 1) := by decide +kernel
theorem pd2 : parseMethodDescriptor "([CII)[B" = some ⟨[(.array .char), .int, .int], some (.array .byte)⟩ := by decide +kernel
theorem pd3 : parseMethodDescriptor "([BI)B" = some ⟨[(.array .byte), .int], some .byte⟩ := by decide +kernel
theorem efKi (m : MethodId) (a1 : Addr) (a2 : Addr) (n : Int32) : entryFrame m #[(.ref a1), (.ref a2), (.int 0), (.int n), .null] 6 = mkF m 0 #[rv a1, rv a2, iv 0, iv n, .val .null, .unset] [] := by first | (simp [entryFrame, mkF, argsToLocals, Value.category]; done) | rfl
def QKi (Z : State) (a1 : Addr) (a2 : Addr) (n : Int32) (cz : Int32) (fv : Value) (k1 : ClassId) (cs : List Int32) (h0 : Heap) (n0 : Nat) (v : Option Value) (h : Heap) (L : List Loc) : Prop := v = none ∧ Fr n0 L ∧ Keep h0 h [a1] ∧ ∃ b k, h0.size ≤ b ∧ StL Z h a1 b k n (i8s cs) 0 0
set_option maxRecDepth 65536 in
set_option maxHeartbeats 40000000 in
theorem rmKi (l : Launch) (Z : State) (a0 : Array Value) (hw : HW a0 Z) (ws : List Jvm.Cond) (a1 : Addr) (a2 : Addr) (n : Int32) (cz : Int32) (fv : Value) (k1 : ClassId) (cs : List Int32) (h0 : Heap) (n0 : Nat) (Z0 : n0 ≤ h0.size) (O0 : Old Z n0 h0) (J0 : Jd Z cz fv) (E1 : Exa Z h0 a1 "java/lang/String") (g_a1 : n0 ≤ a1) (F1 : Fld Z h0 a1 "java/lang/String" "value" "[B" .null) (F2 : Fld Z h0 a1 "java/lang/String" "coder" "B" (.int 0)) (V2 : Arv Z h0 a2 k1 .char n (BV cs) (.int 0)) (hn0 : ¬ n = 0) (hn : n.toInt = cs.length) (hl1 : 1 ≤ cs.length) (hl2 : cs.length ≤ 10) (hle : ∀ c ∈ cs, ¬ (255 : Int32) < c) :
    MF l Z mN5 jdk_42_method_149_code 6 none ws rKKi #[(.ref a1), (.ref a2), (.int 0), (.int n), .null] h0 (QKi Z a1 a2 n cz fv k1 cs h0 n0) := by
  refine MetFree.of_bodySF (plainFor_of_name pn1) hisR ?_
  intro p e s m args bl meth c s1 Bd hml0 hP hK
  obtain ⟨rfl, hZ, hh⟩ := hP
  have hx := Bd.exec
  have hby := Bd.bytes
  have B := @hb c _ hby
  have hM := fun {n : Nat} (h : n = 6) => h.trans hml0.symm
  have hown : s.vm.findClass "java/lang/String" = some m.cls := findClass_of_methodNamed Bd.named
  have hnm := (name_of_methodNamed Bd.named Bd.method).1
  have hlk : meth.locks = false := BodyLoose.notSynchronized Bd
  have X0 : Stand p l e rKKi s m #[(.ref a1), (.ref a2), (.int 0), (.int n), .null] bl meth c s1 [] 0 0 := Stand.of_body Bd
  have e0 : s1.heap = h0 := by rw [← hh, Bd.state]; rfl
  have N0 := Fr.nil n0
  obtain ⟨EF, hEF⟩ : ∃ f, f = entryFrame m #[(.ref a1), (.ref a2), (.int 0), (.int n), .null] 6 := ⟨_, rfl⟩
  have pre0 : Go p e bl s1 (mkF m 0 #[rv a1, rv a2, iv 0, iv n, .val .null, .unset] []) s1 EF := fun t k => by rw [hEF]; exact castTop (efKi m a1 a2 n) k
  have pre1 : Go p e bl s1 (mkF m 1 #[rv a1, rv a2, iv 0, iv n, .val .null, .unset] [(.ref a1)]) s1 EF := fun t k => pre0 t (by
   exact XS.aloadN X0.here hx rfl (B d5_0) rfl rfl k)
  obtain ⟨T2, X2, e2, st2⟩ := initO X0 hx hZ hown (hw _ (mW 15 rfl)) (hw _ (mW 16 rfl)) (hw _ (mW 17 rfl)) e0 (g := (mkF m 1 #[rv a1, rv a2, iv 0, iv n, .val .null, .unset] [(.ref a1)])) rfl (hM rfl) rfl (B d5_1) (by decide) (W := 0) (Nat.le_of_eq rfl) (by decide)
  have pre3 : Go p e bl T2 (mkF m 4 #[rv a1, rv a2, iv 0, iv n, .val .null, .unset] []) s1 EF := fun t k => pre1 t (st2 t k)
  have pre4 : Go p e bl T2 (mkF m 5 #[rv a1, rv a2, iv 0, iv n, .val .null, .unset] [(.int n)]) s1 EF := fun t k => pre3 t (by
   exact XS.iloadN X2.here hx rfl (B d5_4) rfl k)
  have pre5 : Go p e bl T2 (mkF m 27 #[rv a1, rv a2, iv 0, iv n, .val .null, .unset] []) s1 EF := fun t k => pre4 t (XS.ifYes X2.here hx rfl (pc0 := 5) (pc' := 27) rfl (B d5_5) rfl ((if0 _ _).trans (feq hn0).2) (by decide) (by decide) k)
  obtain ⟨T6, X6, e6, st6⟩ := getS2 X2 hx hZ hown (host := "") (Or.inl (hw _ (mW 18 rfl))) Via.refl e2 (J0.1.ext O0.2) (g := (mkF m 27 #[rv a1, rv a2, iv 0, iv n, .val .null, .unset] [])) rfl (B d5_27)
  have pre7 : Go p e bl T6 (mkF m 30 #[rv a1, rv a2, iv 0, iv n, .val .null, .unset] [(.int cz)]) s1 EF := fun t k => pre5 t (st6 t k)
  have pre8 : Go p e bl T6 (mkF m 33 #[rv a1, rv a2, iv 0, iv n, .val .null, .unset] []) s1 EF := fun t k => pre7 t (XS.ifNo X6.here hx rfl (B d5_30) rfl ((if0 _ _).trans (feq J0.2.1).1) k)
  have pre9 : Go p e bl T6 (mkF m 36 #[rv a1, rv a2, iv 0, iv n, .val .null, .unset] [(.int n), (.int 0), (.ref a2)]) s1 EF := fun t k => pre8 t (by
   refine XS.aloadN X6.here hx rfl (B d5_33) rfl rfl ?_
   refine XS.iloadN X6.here hx rfl (B d5_34) rfl ?_
   exact XS.iloadN X6.here hx rfl (B d5_35) rfl k)
  obtain ⟨_, _, ⟨T10, L10, k10, n10⟩, -, X10, ⟨Lc10, hQ10, l10, y10, z10⟩, st10⟩ := Jvm.LawKit.callS X6 hx (y := mN3) hown (mvT hZ (hw _ (mW 19 rfl))) (mvT hZ (hw _ (mW 20 rfl))) (mvT hZ (hw _ (mW 21 rfl))) (mvT hZ (hw _ (mW 22 rfl))) (by decide) (backOf (W := 0) (rmKB l Z a0 hw [] a2 cz fv k1 n cs h0 n0 Z0 O0 J0 V2 hn hl1 hl2 hle) hZ (hw _ (mW 22 rfl)) (hw _ (mW 21 rfl)) (by decide) (by decide)) (g := (mkF m 36 #[rv a1, rv a2, iv 0, iv n, .val .null, .unset] [(.int n), (.int 0), (.ref a2)])) rfl (hM rfl) (argsL := [(.ref a2), (.int 0), (.int n)]) (rest := []) (lenOf pd2 rfl) rfl (Nat.le_of_eq rfl) (B d5_36) (fun _ _ => ⟨rfl, e6, wl rfl, wl rfl⟩)
  dsimp only [Pt.U, Pt.locs, Pt.cells, Pt.slots] at X10 l10 y10 z10 st10 hQ10
  subst l10 y10 z10
  obtain ⟨bv, kb10, rfl, N10q, K10, hsz10, VB10⟩ := hQ10
  have N10 := Fr.app N0 N10q
  have pre11 : Go p e bl T10 (mkF m 39 #[rv a1, rv a2, iv 0, iv n, .val .null, .unset] [(.ref bv)]) s1 EF := fun t k => pre9 t (st10 t k)
  have O12 : Old Z n0 T10.heap := O0.keep K10 all0
  have Z12 : n0 ≤ T10.heap.size := Nat.le_trans Z0 K10.1
  have K12 : Keep h0 T10.heap [a1] := (Keep.refl h0 [a1]).trans K10 all0
  have g_bv : n0 ≤ bv := Nat.le_trans Z0 hsz10
  have sz_bv : h0.size ≤ bv := Nat.le_trans (Keep.refl h0 [a1]).1 hsz10
  have ne_a1_bv : a1 ≠ bv := Nat.ne_of_lt (Nat.lt_of_lt_of_le E1.lt hsz10)
  have pre13 : Go p e bl T10 (mkF m 45 #[rv a1, rv a2, iv 0, iv n, .val .null, rv bv] [(.int n), (.ref bv), (.ref a1)]) s1 EF := fun t k => pre11 t (by
   refine XS.astore X10.here hx rfl (B d5_39) rfl rfl (l' := #[rv a1, rv a2, iv 0, iv n, .val .null, rv bv]) rfl ?_
   refine XS.aloadN X10.here hx rfl (B d5_41) rfl rfl ?_
   refine XS.aload X10.here hx rfl (B d5_42) rfl rfl ?_
   exact XS.iloadN X10.here hx rfl (B d5_44) rfl k)
  obtain ⟨_, _, ⟨T14, L14, k14, n14⟩, -, X14, ⟨Lc14, hQ14, l14, y14, z14⟩, st14⟩ := Jvm.LawKit.callS X10 hx (y := mN4) hown (mvT hZ (hw _ (mW 27 rfl))) (mvT hZ (hw _ (mW 28 rfl))) (mvT hZ (hw _ (mW 21 rfl))) (mvT hZ (hw _ (mW 29 rfl))) (by decide) (backOf (W := 1) (rmKc l Z a0 hw [] bv n cz fv kb10 _ T10.heap n0 Z12 O12 J0 VB10) hZ (hw _ (mW 29 rfl)) (hw _ (mW 21 rfl)) (by decide) (by decide)) (g := (mkF m 45 #[rv a1, rv a2, iv 0, iv n, .val .null, rv bv] [(.int n), (.ref bv), (.ref a1)])) rfl (hM rfl) (argsL := [(.ref bv), (.int n)]) (rest := [(.ref a1)]) (lenOf pd3 rfl) rfl (Nat.le_of_eq rfl) (B d5_45) (fun _ _ => ⟨rfl, rfl, wl rfl, wl rfl⟩)
  dsimp only [Pt.U, Pt.locs, Pt.cells, Pt.slots] at X14 l14 y14 z14 st14 hQ14
  subst l14 y14 z14
  obtain ⟨rfl, N14q, hq14⟩ := hQ14
  have N14 := Fr.app N10 N14q
  have pre15 : Go p e bl T14 (mkF m 48 #[rv a1, rv a2, iv 0, iv n, .val .null, rv bv] [(.int 0), (.ref a1)]) s1 EF := fun t k => pre13 t (st14 t k)
  have e14 : T14.heap = T10.heap := hq14
  obtain ⟨T16, h16, X16, e16, W16, st16⟩ := putFN X14 hx hZ hown (hw _ (mW 30 rfl)) Via.refl e14 (F2.keep K10 nin0) (E1.keep K10) (Or.inr ⟨(hw _ (mW 31 rfl)), rfl, hnm⟩) (hw _ (mW 6 rfl)) (ty := .byte) (v' := (.int 0)) (by decide) rfl rfl (g := (mkF m 48 #[rv a1, rv a2, iv 0, iv n, .val .null, rv bv] [(.int 0), (.ref a1)])) rfl rfl (B d5_48)
  have pre17 : Go p e bl T16 (mkF m 51 #[rv a1, rv a2, iv 0, iv n, .val .null, rv bv] []) s1 EF := fun t k => pre15 t (st16 t k)
  have O18 : Old Z n0 h16 := O12.wr W16 g_a1
  have Z18 : n0 ≤ h16.size := Nat.le_trans Z12 (Keep.of_wr W16).1
  have K18 : Keep h0 h16 [a1] := K12.wr W16 (Or.inl (mg 0 rfl))
  have Fw16 := Fld.same W16 (F2.keep K10 nin0)
  have N16 := Fr.snoc X16 N14 g_a1
  have pre19 : Go p e bl T16 (mkF m 54 #[rv a1, rv a2, iv 0, iv n, .val .null, rv bv] [(.ref bv), (.ref a1)]) s1 EF := fun t k => pre17 t (by
   refine XS.aloadN X16.here hx rfl (B d5_51) rfl rfl ?_
   exact XS.aload X16.here hx rfl (B d5_52) rfl rfl k)
  obtain ⟨T20, h20, X20, e20, W20, st20⟩ := putF X16 hx hZ hown (host := "") (Or.inl (hw _ (mW 32 rfl))) Via.refl e16 (Fld.other W16 (F1.keep K10 nin0) (Or.inr (slot_ne (Or.inr (hw _ (mW 33 rfl))) (Or.inr (hw _ (mW 31 rfl))) (by decide) (t := (.array .byte)) (t' := .byte) (by decide) (by decide)))) ((E1.keep K10).wr W16) (Or.inr ⟨(hw _ (mW 33 rfl)), rfl, hnm⟩) (hw _ (mW 6 rfl)) (ty := (.array .byte)) (by decide) rfl rfl (g := (mkF m 54 #[rv a1, rv a2, iv 0, iv n, .val .null, rv bv] [(.ref bv), (.ref a1)])) rfl rfl (B d5_54)
  have pre21 : Go p e bl T20 (mkF m 57 #[rv a1, rv a2, iv 0, iv n, .val .null, rv bv] []) s1 EF := fun t k => pre19 t (st20 t k)
  have O22 : Old Z n0 h20 := O18.wr W20 g_a1
  have Z22 : n0 ≤ h20.size := Nat.le_trans Z18 (Keep.of_wr W20).1
  have K22 : Keep h0 h20 [a1] := K18.wr W20 (Or.inl (mg 0 rfl))
  have Fw20 := Fld.same W20 (Fld.other W16 (F1.keep K10 nin0) (Or.inr (slot_ne (Or.inr (hw _ (mW 33 rfl))) (Or.inr (hw _ (mW 31 rfl))) (by decide) (t := (.array .byte)) (t' := .byte) (by decide) (by decide))))
  have N20 := Fr.snoc X20 N16 g_a1
  exact fin1 X20 (v := none) (fun _ => rfl) hlk (wl rfl) (wl rfl) (by rw [e20]; exact ⟨rfl, N20, K22, _, _, sz_bv, ⟨(((E1.keep K10).wr W16).wr W20), (Fld.other W20 Fw16 (Or.inr (slot_ne (Or.inr (hw _ (mW 31 rfl))) (Or.inr (hw _ (mW 33 rfl))) (by decide) (t := .byte) (t' := (.array .byte)) (by decide) (by decide)))), Fw20, ((VB10.other W16 (Ne.symm ne_a1_bv)).other W20 (Ne.symm ne_a1_bv)), trivial, ne_a1_bv⟩⟩) (fun fs hr => hEF ▸ pre21 _ (X20.returnOut hx Bd.returns (B d5_57) hr))
abbrev rKKj : Room := { frames := 3, cells := 1, slots := 10, locals := 52 }
theorem d6_0 : decode jdk_42_method_3_code 0 = .ok (.aload_n 0, 1) := by decide +kernel
theorem d6_1 : decode jdk_42_method_3_code 1 = .ok (.aload_n 1, 1) := by decide +kernel
theorem d6_2 : decode jdk_42_method_3_code 2 = .ok (.iconst 0, 1) := by decide +kernel
theorem d6_3 : decode jdk_42_method_3_code 3 = .ok (.aload_n 1, 1) := by decide +kernel
theorem d6_4 : decode jdk_42_method_3_code 4 = .ok (.arraylength, 1) := by decide +kernel
theorem d6_5 : decode jdk_42_method_3_code 5 = .ok (.aconst_null, 1) := by decide +kernel
theorem d6_6 : decode jdk_42_method_3_code 6 = .ok (.invokespecial 27, 3) := by decide +kernel
theorem d6_9 : decode jdk_42_method_3_code 9 = .ok (.return_, 1) := by decide +kernel
theorem pd4 : parseMethodDescriptor "([CIILjava/lang/Void;)V" = some ⟨[(.array .char), .int, .int, (.object "java/lang/Void")], none⟩ := by decide +kernel
theorem efKj (m : MethodId) (a1 : Addr) (a2 : Addr) : entryFrame m #[(.ref a1), (.ref a2)] 2 = mkF m 0 #[rv a1, rv a2] [] := by first | (simp [entryFrame, mkF, argsToLocals, Value.category]; done) | rfl
def QKj (Z : State) (a1 : Addr) (a2 : Addr) (cz : Int32) (fv : Value) (n : Int32) (k1 : ClassId) (cs : List Int32) (h0 : Heap) (n0 : Nat) (v : Option Value) (h : Heap) (L : List Loc) : Prop := v = none ∧ Fr n0 L ∧ Keep h0 h [a1] ∧ ∃ b k, h0.size ≤ b ∧ StL Z h a1 b k n (i8s cs) 0 0
set_option maxRecDepth 65536 in
set_option maxHeartbeats 40000000 in
theorem rmKj (l : Launch) (Z : State) (a0 : Array Value) (hw : HW a0 Z) (ws : List Jvm.Cond) (a1 : Addr) (a2 : Addr) (cz : Int32) (fv : Value) (n : Int32) (k1 : ClassId) (cs : List Int32) (h0 : Heap) (n0 : Nat) (Z0 : n0 ≤ h0.size) (O0 : Old Z n0 h0) (J0 : Jd Z cz fv) (E1 : Exa Z h0 a1 "java/lang/String") (g_a1 : n0 ≤ a1) (F1 : Fld Z h0 a1 "java/lang/String" "value" "[B" .null) (F2 : Fld Z h0 a1 "java/lang/String" "coder" "B" (.int 0)) (V2 : Arv Z h0 a2 k1 .char n (BV cs) (.int 0)) (hn0 : ¬ n = 0) (hn : n.toInt = cs.length) (hl1 : 1 ≤ cs.length) (hl2 : cs.length ≤ 10) (hle : ∀ c ∈ cs, ¬ (255 : Int32) < c) :
    MF l Z mN6 jdk_42_method_3_code 2 none ws rKKj #[(.ref a1), (.ref a2)] h0 (QKj Z a1 a2 cz fv n k1 cs h0 n0) := by
  refine MetFree.of_bodySF (plainFor_of_name pn1) hisR ?_
  intro p e s m args bl meth c s1 Bd hml0 hP hK
  obtain ⟨rfl, hZ, hh⟩ := hP
  have hx := Bd.exec
  have hby := Bd.bytes
  have B := @hb c _ hby
  have hM := fun {n : Nat} (h : n = 2) => h.trans hml0.symm
  have hown : s.vm.findClass "java/lang/String" = some m.cls := findClass_of_methodNamed Bd.named
  have hlk : meth.locks = false := BodyLoose.notSynchronized Bd
  have X0 : Stand p l e rKKj s m #[(.ref a1), (.ref a2)] bl meth c s1 [] 0 0 := Stand.of_body Bd
  have e0 : s1.heap = h0 := by rw [← hh, Bd.state]; rfl
  have N0 := Fr.nil n0
  obtain ⟨EF, hEF⟩ : ∃ f, f = entryFrame m #[(.ref a1), (.ref a2)] 2 := ⟨_, rfl⟩
  have pre0 : Go p e bl s1 (mkF m 0 #[rv a1, rv a2] []) s1 EF := fun t k => by rw [hEF]; exact castTop (efKj m a1 a2) k
  have pre1 : Go p e bl s1 (mkF m 4 #[rv a1, rv a2] [(.ref a2), (.int 0), (.ref a2), (.ref a1)]) s1 EF := fun t k => pre0 t (by
   refine XS.aloadN X0.here hx rfl (B d6_0) rfl rfl ?_
   refine XS.aloadN X0.here hx rfl (B d6_1) rfl rfl ?_
   refine XS.iconst X0.here hx rfl (B d6_2) ?_
   exact XS.aloadN X0.here hx rfl (B d6_3) rfl rfl k)
  obtain ⟨cl2, Ar2, q2, Sz2, M2, H2, G2⟩ := id V2
  have pre3 : Go p e bl s1 (mkF m 6 #[rv a1, rv a2] [.null, (.int n), (.int 0), (.ref a2), (.ref a1)]) s1 EF := fun t k => pre1 t (by
   refine X0.arraylength hx (hp e0 Ar2) (State.isArrayOf_alike hZ.alike Ar2.2.1) (g := (mkF m 4 #[rv a1, rv a2] [(.ref a2), (.int 0), (.ref a2), (.ref a1)])) rfl rfl (B d6_4) _ ?_
   rw [len_of Sz2 M2]
   exact XS.aconstNull X0.here hx rfl (B d6_5) k)
  obtain ⟨_, _, ⟨T4, L4, k4, n4⟩, -, X4, ⟨Lc4, hQ4, l4, y4, z4⟩, st4⟩ := X0.specialBack hx (y := mN5) rfl hown (mvT hZ (hw _ (mW 11 rfl))) (mvT hZ (hw _ (mW 12 rfl))) (mvT hZ (hw _ (mW 14 rfl))) (by decide) (backOf (W := 0) (rmKi l Z a0 hw [] a1 a2 n cz fv k1 cs h0 n0 Z0 O0 J0 E1 g_a1 F1 F2 V2 hn0 hn hl1 hl2 hle) hZ (hw _ (mW 14 rfl)) (hw _ (mW 7 rfl)) (by decide) (by decide)) (g := (mkF m 6 #[rv a1, rv a2] [.null, (.int n), (.int 0), (.ref a2), (.ref a1)])) rfl (hM rfl) (Steps.refl _) (a := a1) (argsL := [(.ref a2), (.int 0), (.int n), .null]) (rest := []) (lenOf pd4 rfl) rfl (Nat.le_of_eq rfl) (B d6_6) (fun _ _ => ⟨rfl, e0, wl rfl, wl rfl⟩)
  dsimp only [Pt.U, Pt.locs, Pt.cells, Pt.slots] at X4 l4 y4 z4 st4 hQ4
  subst l4 y4 z4
  obtain ⟨rfl, N4q, K4, bv4, kb4, hsz4, SF4⟩ := hQ4
  have N4 := Fr.app N0 N4q
  have pre5 : Go p e bl T4 (mkF m 9 #[rv a1, rv a2] []) s1 EF := fun t k => pre3 t (st4.trans k)
  have O6 : Old Z n0 T4.heap := O0.keep K4 (allS g_a1 all0)
  have Z6 : n0 ≤ T4.heap.size := Nat.le_trans Z0 K4.1
  have K6 : Keep h0 T4.heap [a1] := (Keep.refl h0 [a1]).trans K4 (allS (Or.inl (mg 0 rfl)) all0)
  exact fin1 X4 (v := none) (fun _ => rfl) hlk (wl rfl) (wl rfl) (by exact ⟨rfl, N4, K6, _, _, hsz4, SF4⟩) (fun fs hr => hEF ▸ pre5 _ (X4.returnOut hx Bd.returns (B d6_9) hr))
theorem own_safe {Z : State} {EL : List (String × Nat)} {vm : Vm} {h : Heap} {x : Addr} (hal : Z.vm.Alike vm) (E : Exa Z h x "java/lang/String") (F : Fld Z h x "java/lang/String" "value" "[B" .null) : Safe Z EL vm h x := fun B => by
  obtain ⟨p, -, u, a, -, q, -, G, rfl | rfl⟩ := B
  · obtain ⟨cell, cf, k, i, f, h1, h2, h3, h4, h5, h6, h7⟩ := F
    have e : h[Jvm.Free.SB.SQ.sa q]? = some (Jvm.Free.SB.SQ.sC q) := G.ha
    cases e.symm.trans h1
    obtain ⟨cS, ⟨⟨-, -, -, ⟨c1, k1, i1, f1, -⟩, -, -, -, v1, -⟩, -⟩, -⟩ := G
    obtain ⟨k3, e3, -⟩ := State.fieldFound?_setVm (s := Z) hal h2
    have e4 := (show (Wst Z vm h).fieldFound? "java/lang/String" "value" "[B" = _ from e3).symm.trans f1
    simp only [Option.some.injEq, Prod.mk.injEq] at e4
    rw [e4.2.2.2, v1] at h7
    cases h7
  · obtain ⟨cell, k, e1, e2, e3, -, -⟩ := E
    cases (show h[Jvm.Free.SB.SQ.sd q]? = some (Jvm.Free.SB.SQ.SA q) from G.hd).symm.trans e1
    obtain ⟨cS, -, -, f, -⟩ := G
    have f' : vm.findClass "[B" = some (Jvm.Free.SB.SQ.SA q).cls := f
    rw [hal.findClass] at f'
    obtain ⟨k1, q1, q2⟩ := Vm.findClass_spec f'
    obtain ⟨k2, q3, q4⟩ := Vm.findClass_spec e2
    cases q1.symm.trans q3
    exact absurd (q2.symm.trans q4) (by decide)
abbrev rKKi0 : Room := { frames := 1, cells := 4, slots := 8, locals := 12 }
theorem d5_8 : decode jdk_42_method_149_code 8 = .ok (.aload_n 0, 1) := by decide +kernel
theorem d5_9 : decode jdk_42_method_149_code 9 = .ok (.ldc 7, 2) := by decide +kernel
theorem d5_11 : decode jdk_42_method_149_code 11 = .ok (.getfield 9, 3) := by decide +kernel
theorem d5_14 : decode jdk_42_method_149_code 14 = .ok (.putfield 9, 3) := by decide +kernel
theorem d5_17 : decode jdk_42_method_149_code 17 = .ok (.aload_n 0, 1) := by decide +kernel
theorem d5_18 : decode jdk_42_method_149_code 18 = .ok (.ldc 7, 2) := by decide +kernel
theorem d5_20 : decode jdk_42_method_149_code 20 = .ok (.getfield 15, 3) := by decide +kernel
theorem d5_23 : decode jdk_42_method_149_code 23 = .ok (.putfield 15, 3) := by decide +kernel
theorem d5_26 : decode jdk_42_method_149_code 26 = .ok (.return_, 1) := by decide +kernel
theorem efKi0 (m : MethodId) (a1 : Addr) (a2 : Addr) : entryFrame m #[(.ref a1), (.ref a2), (.int 0), (.int 0), .null] 6 = mkF m 0 #[rv a1, rv a2, iv 0, iv 0, .val .null, .unset] [] := by first | (simp [entryFrame, mkF, argsToLocals, Value.category]; done) | rfl
def QKi0 (Z : State) (a1 : Addr) (a2 : Addr) (cz : Int32) (fv : Value) (k1 : ClassId) (h0 : Heap) (n0 : Nat) (v : Option Value) (h : Heap) (L : List Loc) : Prop := v = none ∧ Fr n0 L ∧ Keep h0 h [a1] ∧ ∃ b k, StL Z h a1 b k (0 : Int32) [] 0 0
set_option maxRecDepth 65536 in
set_option maxHeartbeats 40000000 in
theorem rmKi0 (l : Launch) (Z : State) (a0 : Array Value) (hw : HW a0 Z) (ws : List Jvm.Cond) (a1 : Addr) (a2 : Addr) (cz : Int32) (fv : Value) (k1 : ClassId) (h0 : Heap) (n0 : Nat) (Z0 : n0 ≤ h0.size) (O0 : Old Z n0 h0) (J0 : Jd Z cz fv) (E1 : Exa Z h0 a1 "java/lang/String") (g_a1 : n0 ≤ a1) (F1 : Fld Z h0 a1 "java/lang/String" "value" "[B" .null) (F2 : Fld Z h0 a1 "java/lang/String" "coder" "B" (.int 0)) (V2 : Arv Z h0 a2 k1 .char (0 : Int32) [] (.int 0)) :
    MetFree l mN5 (head1 (Jvm.Cond.code mN5 jdk_42_method_149_code 6 none :: ws) rKKi0) (fun a U => a = #[(.ref a1), (.ref a2), (.int 0), (.int 0), .null] ∧ Z.Warmed39 U.vm ∧ U.heap = h0 ∧ CHv Z [("com/example/picketline/picketline/protocol/Protocol", 37), ("com/example/picketline/picketline/protocol/ProtocolNamedPinLaw", 20), ("com/example/picketline/picketline/protocol/ProtocolNamedPinLaw", 42), ("java/lang/String", 7)] U.vm h0) (fun _ _ _ _ _ => True) (fun _ U o U' => ∃ v L, o = .returned v ∧ QKi0 Z a1 a2 cz fv k1 h0 n0 v U'.heap L ∧ CHr Z [("com/example/picketline/picketline/protocol/Protocol", 37), ("com/example/picketline/picketline/protocol/ProtocolNamedPinLaw", 20), ("com/example/picketline/picketline/protocol/ProtocolNamedPinLaw", 42), ("java/lang/String", 7)] U.vm U.heap U'.vm U'.heap ∧ ReturnedEndW U o U' L rKKi0.cells rKKi0.slots) := by
  refine MetFree.of_bodySF (plainFor_of_name pn1) hisR ?_
  intro p e s m args bl meth c s1 Bd hml0 hP hK
  obtain ⟨rfl, hZ, hh, hC⟩ := hP
  have hx := Bd.exec
  have hby := Bd.bytes
  have B := @hb c _ hby
  have hM := fun {n : Nat} (h : n = 6) => h.trans hml0.symm
  have hown : s.vm.findClass "java/lang/String" = some m.cls := findClass_of_methodNamed Bd.named
  have hnm := (name_of_methodNamed Bd.named Bd.method).1
  have X0 : Stand p l e rKKi0 (s.setVm s.vm) m #[(.ref a1), (.ref a2), (.int 0), (.int 0), .null] bl meth c s1 [] 0 0 := Stand.of_body Bd
  have e0 : s1.heap = h0 := by rw [← hh, Bd.state]; rfl
  have N0 := Fr.nil n0
  obtain ⟨EF, hEF⟩ : ∃ f, f = entryFrame m #[(.ref a1), (.ref a2), (.int 0), (.int 0), .null] 6 := ⟨_, rfl⟩
  have pre0 : Go p e bl s1 (mkF m 0 #[rv a1, rv a2, iv 0, iv 0, .val .null, .unset] []) s1 EF := fun t k => by rw [hEF]; exact castTop (efKi0 m a1 a2) k
  have hZ0 : Z.Warmed39 (s.setVm s.vm).vm := hZ
  have hown0 : (s.setVm s.vm).vm.findClass "java/lang/String" = some m.cls := hown
  have hS0 : s.Since s.vm s.heap.size := (State.WarmedH.refl s).since _
  have hk0 : s.heap.size ≤ h0.size := by rw [← hh]; exact Nat.le_refl _
  have sfa : Safe Z [("com/example/picketline/picketline/protocol/Protocol", 37), ("com/example/picketline/picketline/protocol/ProtocolNamedPinLaw", 20), ("com/example/picketline/picketline/protocol/ProtocolNamedPinLaw", 42), ("java/lang/String", 7)] s.vm h0 a1 := own_safe hZ0.alike E1 F1
  have pre1 : Go p e bl s1 (mkF m 1 #[rv a1, rv a2, iv 0, iv 0, .val .null, .unset] [(.ref a1)]) s1 EF := fun t k => pre0 t (by
   exact XS.aloadN X0.here hx rfl (B d5_0) rfl rfl k)
  obtain ⟨T2, X2, e2, st2⟩ := initO X0 hx hZ0 hown0 (hw _ (mW 15 rfl)) (hw _ (mW 16 rfl)) (hw _ (mW 17 rfl)) e0 (g := (mkF m 1 #[rv a1, rv a2, iv 0, iv 0, .val .null, .unset] [(.ref a1)])) rfl (hM rfl) rfl (B d5_1) (by decide) (W := 0) (Nat.le_of_eq rfl) (by decide)
  have pre3 : Go p e bl T2 (mkF m 4 #[rv a1, rv a2, iv 0, iv 0, .val .null, .unset] []) s1 EF := fun t k => pre1 t (st2 t k)
  have pre4 : Go p e bl T2 (mkF m 5 #[rv a1, rv a2, iv 0, iv 0, .val .null, .unset] [(.int 0)]) s1 EF := fun t k => pre3 t (by
   exact XS.iloadN X2.here hx rfl (B d5_4) rfl k)
  have pre5 : Go p e bl T2 (mkF m 8 #[rv a1, rv a2, iv 0, iv 0, .val .null, .unset] []) s1 EF := fun t k => pre4 t (XS.ifNo X2.here hx rfl (B d5_5) rfl ((if0 _ _).trans (teq (by decide : (0 : Int32) = (0 : Int32))).2) k)
  have pre6 : Go p e bl T2 (mkF m 9 #[rv a1, rv a2, iv 0, iv 0, .val .null, .unset] [(.ref a1)]) s1 EF := fun t k => pre5 t (by
   exact XS.aloadN X2.here hx rfl (B d5_8) rfl rfl k)
  have slt7_a1 := E1.lt
  obtain ⟨a7, T7, h7, k7, b7, kc7, X7, e7, Et7, hS7, hk7, hZ7, hown7, LE7, LC7, LF7, LV7, lt7, ltb7, A7, Lt7, sfe7, st7⟩ := ldcCH X2 hx hZ0 hown0 (hw _ (mW 109 rfl)) (own_wS hw) e2 hS0 hk0 (own_EW hw) (mg 3 rfl) hC (vs := []) (z := (0 : Int32)) (by decide +kernel) (by decide) (by decide) (g := (mkF m 9 #[rv a1, rv a2, iv 0, iv 0, .val .null, .unset] [(.ref a1)])) rfl (B d5_9) (n := 0) (by decide) (by decide) (by decide) (by decide)
  have pre8 : Go p e bl T7 (mkF m 11 #[rv a1, rv a2, iv 0, iv 0, .val .null, .unset] [(.ref a7), (.ref a1)]) s1 EF := fun t k => pre6 t (st7 t k)
  have O9 : Old Z n0 h7 := O0.ext Et7
  have Z9 : n0 ≤ h7.size := Nat.le_trans Z0 Et7.1
  have K9 : Keep h0 h7 [a1] := (Keep.refl h0 [a1]).ext Et7
  have sg7_a1 := A7.safe slt7_a1 sfa
  have nx7_a1 := sfe7 a1 sg7_a1
  have R7 := (CHr.refl hC).trans A7
  obtain ⟨T10, X10, e10, st10⟩ := getF X7 hx hZ7 hown7 (host := "") (Or.inl (hw _ (mW 32 rfl))) Via.refl e7 LF7 (g := (mkF m 11 #[rv a1, rv a2, iv 0, iv 0, .val .null, .unset] [(.ref a7), (.ref a1)])) rfl rfl (B d5_11)
  have pre11 : Go p e bl T10 (mkF m 14 #[rv a1, rv a2, iv 0, iv 0, .val .null, .unset] [(.ref b7), (.ref a1)]) s1 EF := fun t k => pre8 t (st10 t k)
  obtain ⟨T12, h12, X12, e12, W12, st12⟩ := putF X10 hx hZ7 hown7 (host := "") (Or.inl (hw _ (mW 32 rfl))) Via.refl e10 (F1.ext Et7) (E1.ext Et7) (Or.inr ⟨(hw _ (mW 33 rfl)), rfl, hnm⟩) (hw _ (mW 6 rfl)) (ty := (.array .byte)) (by decide) rfl rfl (g := (mkF m 14 #[rv a1, rv a2, iv 0, iv 0, .val .null, .unset] [(.ref b7), (.ref a1)])) rfl rfl (B d5_14)
  have pre13 : Go p e bl T12 (mkF m 17 #[rv a1, rv a2, iv 0, iv 0, .val .null, .unset] []) s1 EF := fun t k => pre11 t (st12 t k)
  have O14 : Old Z n0 h12 := O9.wr W12 g_a1
  have Z14 : n0 ≤ h12.size := Nat.le_trans Z9 (Keep.of_wr W12).1
  have hk14 := Nat.le_trans hk7 (Keep.of_wr W12).1
  have C14 := CHv.wr W12 sg7_a1 A7.1
  have R14 := R7.trans (CHr.wr W12 sg7_a1 A7.1)
  have sf14_a1 := Safe.wr W12 sg7_a1 A7.1 sg7_a1
  have K14 : Keep h0 h12 [a1] := K9.wr W12 (Or.inl (mg 0 rfl))
  have Fw12 := Fld.same W12 (F1.ext Et7)
  have N12 := Fr.snoc X12 N0 g_a1
  have pre15 : Go p e bl T12 (mkF m 18 #[rv a1, rv a2, iv 0, iv 0, .val .null, .unset] [(.ref a1)]) s1 EF := fun t k => pre13 t (by
   exact XS.aloadN X12.here hx rfl (B d5_17) rfl rfl k)
  have slt16_a1 := ((E1.ext Et7).wr W12).lt
  obtain ⟨a16, T16, h16, k16, b16, kc16, X16, e16, Et16, hS16, hk16, hZ16, hown16, LE16, LC16, LF16, LV16, lt16, ltb16, A16, Lt16, sfe16, st16⟩ := ldcCH X12 hx hZ7 hown7 (hw _ (mW 109 rfl)) (own_wS hw) e12 hS7 hk14 (own_EW hw) (mg 3 rfl) C14 (vs := []) (z := (0 : Int32)) (by decide +kernel) (by decide) (by decide) (g := (mkF m 18 #[rv a1, rv a2, iv 0, iv 0, .val .null, .unset] [(.ref a1)])) rfl (B d5_18) (n := 0) (by decide) (by decide) (by decide) (by decide)
  have pre17 : Go p e bl T16 (mkF m 20 #[rv a1, rv a2, iv 0, iv 0, .val .null, .unset] [(.ref a16), (.ref a1)]) s1 EF := fun t k => pre15 t (st16 t k)
  have O18 : Old Z n0 h16 := O14.ext Et16
  have Z18 : n0 ≤ h16.size := Nat.le_trans Z14 Et16.1
  have K18 : Keep h0 h16 [a1] := K14.ext Et16
  have sg16_a1 := A16.safe slt16_a1 sf14_a1
  have nx16_a1 := sfe16 a1 sg16_a1
  have R16 := R14.trans A16
  obtain ⟨T19, X19, e19, st19⟩ := getF X16 hx hZ16 hown16 (host := "") (Or.inl (hw _ (mW 30 rfl))) Via.refl e16 LC16 (g := (mkF m 20 #[rv a1, rv a2, iv 0, iv 0, .val .null, .unset] [(.ref a16), (.ref a1)])) rfl rfl (B d5_20)
  have pre20 : Go p e bl T19 (mkF m 23 #[rv a1, rv a2, iv 0, iv 0, .val .null, .unset] [(.int 0), (.ref a1)]) s1 EF := fun t k => pre17 t (st19 t k)
  obtain ⟨T21, h21, X21, e21, W21, st21⟩ := putFN X19 hx hZ16 hown16 (hw _ (mW 30 rfl)) Via.refl e19 ((Fld.other W12 (F2.ext Et7) (Or.inr (slot_ne (Or.inr (hw _ (mW 31 rfl))) (Or.inr (hw _ (mW 33 rfl))) (by decide) (t := .byte) (t' := (.array .byte)) (by decide) (by decide)))).ext Et16) (((E1.ext Et7).wr W12).ext Et16) (Or.inr ⟨(hw _ (mW 31 rfl)), rfl, hnm⟩) (hw _ (mW 6 rfl)) (ty := .byte) (v' := (.int 0)) (by decide) rfl rfl (g := (mkF m 23 #[rv a1, rv a2, iv 0, iv 0, .val .null, .unset] [(.int 0), (.ref a1)])) rfl rfl (B d5_23)
  have pre22 : Go p e bl T21 (mkF m 26 #[rv a1, rv a2, iv 0, iv 0, .val .null, .unset] []) s1 EF := fun t k => pre20 t (st21 t k)
  have O23 : Old Z n0 h21 := O18.wr W21 g_a1
  have Z23 : n0 ≤ h21.size := Nat.le_trans Z18 (Keep.of_wr W21).1
  have hk23 := Nat.le_trans hk16 (Keep.of_wr W21).1
  have C23 := CHv.wr W21 sg16_a1 A16.1
  have R23 := R16.trans (CHr.wr W21 sg16_a1 A16.1)
  have sf23_a1 := Safe.wr W21 sg16_a1 A16.1 sg16_a1
  have K23 : Keep h0 h21 [a1] := K18.wr W21 (Or.inl (mg 0 rfl))
  have Fw21 := Fld.same W21 ((Fld.other W12 (F2.ext Et7) (Or.inr (slot_ne (Or.inr (hw _ (mW 31 rfl))) (Or.inr (hw _ (mW 33 rfl))) (by decide) (t := .byte) (t' := (.array .byte)) (by decide) (by decide)))).ext Et16)
  have N21 := Fr.snoc X21 N12 g_a1
  obtain ⟨fs, hr, hrun, hended, hend1, hend2, hend3, hsame⟩ := X21.leaveW hS16 (by rw [e21]; exact hk23) (v := none) (fun _ => rfl)
  have hCH : CHr Z [("com/example/picketline/picketline/protocol/Protocol", 37), ("com/example/picketline/picketline/protocol/ProtocolNamedPinLaw", 20), ("com/example/picketline/picketline/protocol/ProtocolNamedPinLaw", 42), ("java/lang/String", 7)] s.vm s.heap T21.vm T21.heap := by rw [hh, e21]; exact R23.trans (CHv.at X21 hZ16 (own_EW hw) C23)
  refine ⟨_, _, hEF ▸ pre22 _ (X21.returnOut hx Bd.returns (B d5_26) hr), hrun, hended, _, _, rfl, ?_, hCH, hend1, hend2, hend3, hsame.mono (by decide) (by decide)⟩
  show QKi0 Z a1 a2 cz fv k1 h0 n0 _ T21.heap _
  rw [e21]
  exact ⟨rfl, N21, K23, _, _, ⟨((((E1.ext Et7).wr W12).ext Et16).wr W21), Fw21, (Fld.other W21 (Fw12.ext Et16) (Or.inr (slot_ne (Or.inr (hw _ (mW 33 rfl))) (Or.inr (hw _ (mW 31 rfl))) (by decide) (t := (.array .byte)) (t' := .byte) (by decide) (by decide)))), (((LV7.other W12 (Ne.symm nx7_a1.2)).ext Et16).other W21 (Ne.symm nx7_a1.2)), trivial, nx7_a1.2⟩⟩
abbrev rKKj0 : Room := { frames := 2, cells := 4, slots := 8, locals := 29 }
theorem efKj0 (m : MethodId) (a1 : Addr) (a2 : Addr) : entryFrame m #[(.ref a1), (.ref a2)] 2 = mkF m 0 #[rv a1, rv a2] [] := by first | (simp [entryFrame, mkF, argsToLocals, Value.category]; done) | rfl
def QKj0 (Z : State) (a1 : Addr) (a2 : Addr) (cz : Int32) (fv : Value) (k1 : ClassId) (h0 : Heap) (n0 : Nat) (v : Option Value) (h : Heap) (L : List Loc) : Prop := v = none ∧ Fr n0 L ∧ Keep h0 h [a1] ∧ ∃ b k, StL Z h a1 b k (0 : Int32) [] 0 0
set_option maxRecDepth 65536 in
set_option maxHeartbeats 40000000 in
theorem rmKj0 (l : Launch) (Z : State) (a0 : Array Value) (hw : HW a0 Z) (ws : List Jvm.Cond) (a1 : Addr) (a2 : Addr) (cz : Int32) (fv : Value) (k1 : ClassId) (h0 : Heap) (n0 : Nat) (Z0 : n0 ≤ h0.size) (O0 : Old Z n0 h0) (J0 : Jd Z cz fv) (E1 : Exa Z h0 a1 "java/lang/String") (g_a1 : n0 ≤ a1) (F1 : Fld Z h0 a1 "java/lang/String" "value" "[B" .null) (F2 : Fld Z h0 a1 "java/lang/String" "coder" "B" (.int 0)) (V2 : Arv Z h0 a2 k1 .char (0 : Int32) [] (.int 0)) :
    MetFree l mN6 (head1 (Jvm.Cond.code mN6 jdk_42_method_3_code 2 none :: ws) rKKj0) (fun a U => a = #[(.ref a1), (.ref a2)] ∧ Z.Warmed39 U.vm ∧ U.heap = h0 ∧ CHv Z [("com/example/picketline/picketline/protocol/Protocol", 37), ("com/example/picketline/picketline/protocol/ProtocolNamedPinLaw", 20), ("com/example/picketline/picketline/protocol/ProtocolNamedPinLaw", 42), ("java/lang/String", 7)] U.vm h0) (fun _ _ _ _ _ => True) (fun _ U o U' => ∃ v L, o = .returned v ∧ QKj0 Z a1 a2 cz fv k1 h0 n0 v U'.heap L ∧ CHr Z [("com/example/picketline/picketline/protocol/Protocol", 37), ("com/example/picketline/picketline/protocol/ProtocolNamedPinLaw", 20), ("com/example/picketline/picketline/protocol/ProtocolNamedPinLaw", 42), ("java/lang/String", 7)] U.vm U.heap U'.vm U'.heap ∧ ReturnedEndW U o U' L rKKj0.cells rKKj0.slots) := by
  refine MetFree.of_bodySF (plainFor_of_name pn1) hisR ?_
  intro p e s m args bl meth c s1 Bd hml0 hP hK
  obtain ⟨rfl, hZ, hh, hC⟩ := hP
  have hx := Bd.exec
  have hby := Bd.bytes
  have B := @hb c _ hby
  have hM := fun {n : Nat} (h : n = 2) => h.trans hml0.symm
  have hown : s.vm.findClass "java/lang/String" = some m.cls := findClass_of_methodNamed Bd.named
  have X0 : Stand p l e rKKj0 (s.setVm s.vm) m #[(.ref a1), (.ref a2)] bl meth c s1 [] 0 0 := Stand.of_body Bd
  have e0 : s1.heap = h0 := by rw [← hh, Bd.state]; rfl
  have N0 := Fr.nil n0
  obtain ⟨EF, hEF⟩ : ∃ f, f = entryFrame m #[(.ref a1), (.ref a2)] 2 := ⟨_, rfl⟩
  have pre0 : Go p e bl s1 (mkF m 0 #[rv a1, rv a2] []) s1 EF := fun t k => by rw [hEF]; exact castTop (efKj0 m a1 a2) k
  have hZ0 : Z.Warmed39 (s.setVm s.vm).vm := hZ
  have hown0 : (s.setVm s.vm).vm.findClass "java/lang/String" = some m.cls := hown
  have hS0 : s.Since s.vm s.heap.size := (State.WarmedH.refl s).since _
  have hk0 : s.heap.size ≤ h0.size := by rw [← hh]; exact Nat.le_refl _
  have sfa : Safe Z [("com/example/picketline/picketline/protocol/Protocol", 37), ("com/example/picketline/picketline/protocol/ProtocolNamedPinLaw", 20), ("com/example/picketline/picketline/protocol/ProtocolNamedPinLaw", 42), ("java/lang/String", 7)] s.vm h0 a1 := own_safe hZ0.alike E1 F1
  have pre1 : Go p e bl s1 (mkF m 4 #[rv a1, rv a2] [(.ref a2), (.int 0), (.ref a2), (.ref a1)]) s1 EF := fun t k => pre0 t (by
   refine XS.aloadN X0.here hx rfl (B d6_0) rfl rfl ?_
   refine XS.aloadN X0.here hx rfl (B d6_1) rfl rfl ?_
   refine XS.iconst X0.here hx rfl (B d6_2) ?_
   exact XS.aloadN X0.here hx rfl (B d6_3) rfl rfl k)
  obtain ⟨cl2, Ar2, q2, Sz2, M2, H2, G2⟩ := id V2
  have pre3 : Go p e bl s1 (mkF m 6 #[rv a1, rv a2] [.null, (.int 0), (.int 0), (.ref a2), (.ref a1)]) s1 EF := fun t k => pre1 t (by
   refine X0.arraylength hx (hp e0 Ar2) (State.isArrayOf_alike hZ0.alike Ar2.2.1) (g := (mkF m 4 #[rv a1, rv a2] [(.ref a2), (.int 0), (.ref a2), (.ref a1)])) rfl rfl (B d6_4) _ ?_
   rw [len_of Sz2 M2]
   exact XS.aconstNull X0.here hx rfl (B d6_5) k)
  obtain ⟨_, _, ⟨T4, L4, k4, n4⟩, -, XQ4, hSQ4, hgQ4, ⟨Lc4, hQ4, l4, y4, z4, hCH4⟩, st4⟩ := X0.specialBackS hx (y := mN5) rfl hown0 (mvT hZ0 (hw _ (mW 11 rfl))) (mvT hZ0 (hw _ (mW 12 rfl))) (mvT hZ0 (hw _ (mW 14 rfl))) (by decide) (backOfSH (W := 0) (rmKi0 l Z a0 hw [] a1 a2 cz fv k1 h0 n0 Z0 O0 J0 E1 g_a1 F1 F2 V2) hZ0 (hw _ (mW 14 rfl)) (hw _ (mW 7 rfl)) (by decide) (by decide) (own_EW hw) hC) (g := (mkF m 6 #[rv a1, rv a2] [.null, (.int 0), (.int 0), (.ref a2), (.ref a1)])) rfl (hM rfl) (Steps.refl _) (a := a1) (argsL := [(.ref a2), (.int 0), (.int 0), .null]) (rest := []) (lenOf pd4 rfl) rfl (Nat.le_of_eq rfl) (B d6_6) (fun _ _ => ⟨rfl, e0, wl rfl, wl rfl⟩)
  dsimp only [Pt.U, Pt.locs, Pt.cells, Pt.slots] at XQ4 hSQ4 hgQ4 hCH4 l4 y4 z4 st4 hQ4
  subst l4 y4 z4
  obtain ⟨X4, hS4, hZ4, hown4⟩ := rebS hS0 (by rw [e0]; exact hk0) XQ4 hSQ4 hgQ4 hZ0 hown0
  obtain ⟨rfl, N4q, K4, bv4, kb4, SF4⟩ := hQ4
  have N4 := Fr.app N0 N4q
  have pre5 : Go p e bl T4 (mkF m 9 #[rv a1, rv a2] []) s1 EF := fun t k => pre3 t (st4.trans k)
  have hk4 := Nat.le_refl T4.heap.size
  have R4 := (CHr.refl hC).trans hCH4
  have O6 : Old Z n0 T4.heap := O0.keep K4 (allS g_a1 all0)
  have Z6 : n0 ≤ T4.heap.size := Nat.le_trans Z0 K4.1
  have K6 : Keep h0 T4.heap [a1] := (Keep.refl h0 [a1]).trans K4 (allS (Or.inl (mg 0 rfl)) all0)
  obtain ⟨fs, hr, hrun, hended, hend1, hend2, hend3, hsame⟩ := X4.leaveW hS4 hk4 (v := none) (fun _ => rfl)
  have hCH : CHr Z [("com/example/picketline/picketline/protocol/Protocol", 37), ("com/example/picketline/picketline/protocol/ProtocolNamedPinLaw", 20), ("com/example/picketline/picketline/protocol/ProtocolNamedPinLaw", 42), ("java/lang/String", 7)] s.vm s.heap T4.vm T4.heap := by rw [hh]; exact R4.trans (CHv.at X4 hZ4 (own_EW hw) hCH4.1)
  refine ⟨_, _, hEF ▸ pre5 _ (X4.returnOut hx Bd.returns (B d6_9) hr), hrun, hended, _, _, rfl, ?_, hCH, hend1, hend2, hend3, hsame.mono (by decide) (by decide)⟩
  show QKj0 Z a1 a2 cz fv k1 h0 n0 _ T4.heap _
  exact ⟨rfl, N4, K6, _, _, SF4⟩
abbrev rKN : Room := { frames := 0, cells := 0, slots := 0, locals := 0 }
theorem d7_0 : decode jdk_31_method_11_code 0 = .ok (.aload_n 0, 1) := by decide +kernel
theorem d7_1 : decode jdk_31_method_11_code 1 = .ok (.ifnonnull 12, 3) := by decide +kernel
theorem d7_13 : decode jdk_31_method_11_code 13 = .ok (.aload_n 0, 1) := by decide +kernel
theorem d7_14 : decode jdk_31_method_11_code 14 = .ok (.areturn, 1) := by decide +kernel
theorem pn3 : plainName "java/util/Objects" = true := by first | (simp [plainName, overriddenIn]; done) | decide +kernel
theorem efN (m : MethodId) (a1 : Addr) (a2 : Addr) : entryFrame m #[(.ref a1), (.ref a2)] 2 = mkF m 0 #[rv a1, rv a2] [] := by first | (simp [entryFrame, mkF, argsToLocals, Value.category]; done) | rfl
def QN (Z : State) (a1 : Addr) (a2 : Addr) (h0 : Heap) (n0 : Nat) (v : Option Value) (h : Heap) (L : List Loc) : Prop := v = some (.ref a1) ∧ Fr n0 L ∧ h = h0
set_option maxRecDepth 65536 in
set_option maxHeartbeats 40000000 in
theorem rmN (l : Launch) (Z : State) (a0 : Array Value) (hw : HW a0 Z) (ws : List Jvm.Cond) (a1 : Addr) (a2 : Addr) (h0 : Heap) (n0 : Nat) (Z0 : n0 ≤ h0.size) :
    MF l Z mN7 jdk_31_method_11_code 2 (some (.object "java/lang/Object")) ws rKN #[(.ref a1), (.ref a2)] h0 (QN Z a1 a2 h0 n0) := by
  refine MetFree.of_bodySF (plainFor_of_name pn3) hisR ?_
  intro p e s m args bl meth c s1 Bd hml0 hP hK
  obtain ⟨rfl, hZ, hh⟩ := hP
  have hx := Bd.exec
  have hby := Bd.bytes
  have B := @hb c _ hby
  have hown : s.vm.findClass "java/util/Objects" = some m.cls := findClass_of_methodNamed Bd.named
  have hlk : meth.locks = false := BodyLoose.notSynchronized Bd
  have hrt : ∀ {v : Option Value}, meth.sig.returnType = none → v = none := fun h => by rw [Bd.returns] at h; cases h
  have X0 : Stand p l e rKN s m #[(.ref a1), (.ref a2)] bl meth c s1 [] 0 0 := Stand.of_body Bd
  have e0 : s1.heap = h0 := by rw [← hh, Bd.state]; rfl
  have N0 := Fr.nil n0
  obtain ⟨EF, hEF⟩ : ∃ f, f = entryFrame m #[(.ref a1), (.ref a2)] 2 := ⟨_, rfl⟩
  have pre0 : Go p e bl s1 (mkF m 0 #[rv a1, rv a2] []) s1 EF := fun t k => by rw [hEF]; exact castTop (efN m a1 a2) k
  have pre1 : Go p e bl s1 (mkF m 14 #[rv a1, rv a2] [(.ref a1)]) s1 EF := fun t k => pre0 t (by
   refine XS.aloadN X0.here hx rfl (B d7_0) rfl rfl ?_
   refine XS.ifnonnullYes X0.here hx rfl (pc0 := 1) (pc' := 13) rfl (B d7_1) rfl (by decide) (by decide) ?_
   exact XS.aloadN X0.here hx rfl (B d7_13) rfl rfl k)
  exact fin1 X0 (v := some (.ref a1)) hrt hlk (wl rfl) (wl rfl) (by rw [e0]; exact ⟨rfl, N0, rfl⟩) (fun fs hr => hEF ▸ pre1 _ (retOut X0 hx Bd.returns rfl (Or.inr (Or.inr (Or.inr (Or.inr ⟨rfl, rfl, rfl⟩)))) (B d7_14) hr))
abbrev rKN1 : Room := { frames := 0, cells := 0, slots := 0, locals := 0 }
theorem d8_0 : decode jdk_31_method_10_code 0 = .ok (.aload_n 0, 1) := by decide +kernel
theorem d8_1 : decode jdk_31_method_10_code 1 = .ok (.ifnonnull 11, 3) := by decide +kernel
theorem d8_12 : decode jdk_31_method_10_code 12 = .ok (.aload_n 0, 1) := by decide +kernel
theorem d8_13 : decode jdk_31_method_10_code 13 = .ok (.areturn, 1) := by decide +kernel
theorem efN1 (m : MethodId) (a1 : Addr) : entryFrame m #[(.ref a1)] 1 = mkF m 0 #[rv a1] [] := by first | (simp [entryFrame, mkF, argsToLocals, Value.category]; done) | rfl
def QN1 (Z : State) (a1 : Addr) (h0 : Heap) (n0 : Nat) (v : Option Value) (h : Heap) (L : List Loc) : Prop := v = some (.ref a1) ∧ Fr n0 L ∧ h = h0
set_option maxRecDepth 65536 in
set_option maxHeartbeats 40000000 in
theorem rmN1 (l : Launch) (Z : State) (a0 : Array Value) (hw : HW a0 Z) (ws : List Jvm.Cond) (a1 : Addr) (h0 : Heap) (n0 : Nat) (Z0 : n0 ≤ h0.size) :
    MF l Z mN8 jdk_31_method_10_code 1 (some (.object "java/lang/Object")) ws rKN1 #[(.ref a1)] h0 (QN1 Z a1 h0 n0) := by
  refine MetFree.of_bodySF (plainFor_of_name pn3) hisR ?_
  intro p e s m args bl meth c s1 Bd hml0 hP hK
  obtain ⟨rfl, hZ, hh⟩ := hP
  have hx := Bd.exec
  have hby := Bd.bytes
  have B := @hb c _ hby
  have hown : s.vm.findClass "java/util/Objects" = some m.cls := findClass_of_methodNamed Bd.named
  have hlk : meth.locks = false := BodyLoose.notSynchronized Bd
  have hrt : ∀ {v : Option Value}, meth.sig.returnType = none → v = none := fun h => by rw [Bd.returns] at h; cases h
  have X0 : Stand p l e rKN1 s m #[(.ref a1)] bl meth c s1 [] 0 0 := Stand.of_body Bd
  have e0 : s1.heap = h0 := by rw [← hh, Bd.state]; rfl
  have N0 := Fr.nil n0
  obtain ⟨EF, hEF⟩ : ∃ f, f = entryFrame m #[(.ref a1)] 1 := ⟨_, rfl⟩
  have pre0 : Go p e bl s1 (mkF m 0 #[rv a1] []) s1 EF := fun t k => by rw [hEF]; exact castTop (efN1 m a1) k
  have pre1 : Go p e bl s1 (mkF m 13 #[rv a1] [(.ref a1)]) s1 EF := fun t k => pre0 t (by
   refine XS.aloadN X0.here hx rfl (B d8_0) rfl rfl ?_
   refine XS.ifnonnullYes X0.here hx rfl (pc0 := 1) (pc' := 12) rfl (B d8_1) rfl (by decide) (by decide) ?_
   exact XS.aloadN X0.here hx rfl (B d8_12) rfl rfl k)
  exact fin1 X0 (v := some (.ref a1)) hrt hlk (wl rfl) (wl rfl) (by rw [e0]; exact ⟨rfl, N0, rfl⟩) (fun fs hr => hEF ▸ pre1 _ (retOut X0 hx Bd.returns rfl (Or.inr (Or.inr (Or.inr (Or.inr ⟨rfl, rfl, rfl⟩)))) (B d8_13) hr))
abbrev rKOi : Room := { frames := 1, cells := 0, slots := 0, locals := 12 }
theorem d9_0 : decode jdk_32_method_2_code 0 = .ok (.aload_n 0, 1) := by decide +kernel
theorem d9_1 : decode jdk_32_method_2_code 1 = .ok (.invokespecial 7, 3) := by decide +kernel
theorem d9_4 : decode jdk_32_method_2_code 4 = .ok (.aload_n 0, 1) := by decide +kernel
theorem d9_5 : decode jdk_32_method_2_code 5 = .ok (.aload_n 1, 1) := by decide +kernel
theorem d9_6 : decode jdk_32_method_2_code 6 = .ok (.putfield 13, 3) := by decide +kernel
theorem d9_9 : decode jdk_32_method_2_code 9 = .ok (.return_, 1) := by decide +kernel
theorem pn4 : plainName "java/util/Optional" = true := by first | (simp [plainName, overriddenIn]; done) | decide +kernel
theorem efOi (m : MethodId) (a1 : Addr) (a2 : Addr) : entryFrame m #[(.ref a1), (.ref a2)] 2 = mkF m 0 #[rv a1, rv a2] [] := by first | (simp [entryFrame, mkF, argsToLocals, Value.category]; done) | rfl
def QOi (Z : State) (a1 : Addr) (a2 : Addr) (h0 : Heap) (n0 : Nat) (v : Option Value) (h : Heap) (L : List Loc) : Prop := v = none ∧ Fr n0 L ∧ Keep h0 h [a1] ∧ Exa Z h a1 "java/util/Optional" ∧ Fld Z h a1 "java/util/Optional" "value" "Ljava/lang/Object;" (.ref a2)
set_option maxRecDepth 65536 in
set_option maxHeartbeats 40000000 in
theorem rmOi (l : Launch) (Z : State) (a0 : Array Value) (hw : HW a0 Z) (ws : List Jvm.Cond) (a1 : Addr) (a2 : Addr) (h0 : Heap) (n0 : Nat) (Z0 : n0 ≤ h0.size) (E1 : Exa Z h0 a1 "java/util/Optional") (g_a1 : n0 ≤ a1) (F1 : Fld Z h0 a1 "java/util/Optional" "value" "Ljava/lang/Object;" .null) :
    MF l Z mN9 jdk_32_method_2_code 2 none ws rKOi #[(.ref a1), (.ref a2)] h0 (QOi Z a1 a2 h0 n0) := by
  refine MetFree.of_bodySF (plainFor_of_name pn4) hisR ?_
  intro p e s m args bl meth c s1 Bd hml0 hP hK
  obtain ⟨rfl, hZ, hh⟩ := hP
  have hx := Bd.exec
  have hby := Bd.bytes
  have B := @hb c _ hby
  have hM := fun {n : Nat} (h : n = 2) => h.trans hml0.symm
  have hown : s.vm.findClass "java/util/Optional" = some m.cls := findClass_of_methodNamed Bd.named
  have hnm := (name_of_methodNamed Bd.named Bd.method).1
  have hlk : meth.locks = false := BodyLoose.notSynchronized Bd
  have X0 : Stand p l e rKOi s m #[(.ref a1), (.ref a2)] bl meth c s1 [] 0 0 := Stand.of_body Bd
  have e0 : s1.heap = h0 := by rw [← hh, Bd.state]; rfl
  have N0 := Fr.nil n0
  obtain ⟨EF, hEF⟩ : ∃ f, f = entryFrame m #[(.ref a1), (.ref a2)] 2 := ⟨_, rfl⟩
  have pre0 : Go p e bl s1 (mkF m 0 #[rv a1, rv a2] []) s1 EF := fun t k => by rw [hEF]; exact castTop (efOi m a1 a2) k
  have pre1 : Go p e bl s1 (mkF m 1 #[rv a1, rv a2] [(.ref a1)]) s1 EF := fun t k => pre0 t (by
   exact XS.aloadN X0.here hx rfl (B d9_0) rfl rfl k)
  obtain ⟨T2, X2, e2, st2⟩ := initO X0 hx hZ hown (hw _ (mW 85 rfl)) (hw _ (mW 16 rfl)) (hw _ (mW 17 rfl)) e0 (g := (mkF m 1 #[rv a1, rv a2] [(.ref a1)])) rfl (hM rfl) rfl (B d9_1) (by decide) (W := 0) (Nat.le_of_eq rfl) (by decide)
  have pre3 : Go p e bl T2 (mkF m 4 #[rv a1, rv a2] []) s1 EF := fun t k => pre1 t (st2 t k)
  have pre4 : Go p e bl T2 (mkF m 6 #[rv a1, rv a2] [(.ref a2), (.ref a1)]) s1 EF := fun t k => pre3 t (by
   refine XS.aloadN X2.here hx rfl (B d9_4) rfl rfl ?_
   exact XS.aloadN X2.here hx rfl (B d9_5) rfl rfl k)
  obtain ⟨T5, h5, X5, e5, W5, st5⟩ := putF X2 hx hZ hown (host := "") (Or.inl (hw _ (mW 86 rfl))) Via.refl e2 F1 E1 (Or.inr ⟨(hw _ (mW 87 rfl)), rfl, hnm⟩) (hw _ (mW 77 rfl)) (ty := (.object "java/lang/Object")) (by decide) rfl rfl (g := (mkF m 6 #[rv a1, rv a2] [(.ref a2), (.ref a1)])) rfl rfl (B d9_6)
  have pre6 : Go p e bl T5 (mkF m 9 #[rv a1, rv a2] []) s1 EF := fun t k => pre4 t (st5 t k)
  have Z7 : n0 ≤ h5.size := Nat.le_trans Z0 (Keep.of_wr W5).1
  have K7 : Keep h0 h5 [a1] := (Keep.refl h0 [a1]).wr W5 (Or.inl (mg 0 rfl))
  have Fw5 := Fld.same W5 F1
  have N5 := Fr.snoc X5 N0 g_a1
  exact fin1 X5 (v := none) (fun _ => rfl) hlk (wl rfl) (wl rfl) (by rw [e5]; exact ⟨rfl, N5, K7, (E1.wr W5), Fw5⟩) (fun fs hr => hEF ▸ pre6 _ (X5.returnOut hx Bd.returns (B d9_9) hr))
abbrev rKOf : Room := { frames := 2, cells := 1, slots := 1, locals := 26 }
theorem d10_0 : decode jdk_32_method_3_code 0 = .ok (.new 2, 3) := by decide +kernel
theorem d10_3 : decode jdk_32_method_3_code 3 = .ok (.dup, 1) := by decide +kernel
theorem d10_4 : decode jdk_32_method_3_code 4 = .ok (.aload_n 0, 1) := by decide +kernel
theorem d10_5 : decode jdk_32_method_3_code 5 = .ok (.invokestatic 17, 3) := by decide +kernel
theorem d10_8 : decode jdk_32_method_3_code 8 = .ok (.invokespecial 23, 3) := by decide +kernel
theorem d10_11 : decode jdk_32_method_3_code 11 = .ok (.areturn, 1) := by decide +kernel
theorem pd5 : parseMethodDescriptor "(Ljava/lang/Object;)Ljava/lang/Object;" = some ⟨[(.object "java/lang/Object")], some (.object "java/lang/Object")⟩ := by decide +kernel
theorem pd6 : parseMethodDescriptor "(Ljava/lang/Object;)V" = some ⟨[(.object "java/lang/Object")], none⟩ := by decide +kernel
theorem efOf (m : MethodId) (a1 : Addr) : entryFrame m #[(.ref a1)] 1 = mkF m 0 #[rv a1] [] := by first | (simp [entryFrame, mkF, argsToLocals, Value.category]; done) | rfl
def QOf (Z : State) (a1 : Addr) (h0 : Heap) (n0 : Nat) (v : Option Value) (h : Heap) (L : List Loc) : Prop := ∃ o, v = some (.ref o) ∧ Fr n0 L ∧ Keep h0 h [] ∧ Exa Z h o "java/util/Optional" ∧ Fld Z h o "java/util/Optional" "value" "Ljava/lang/Object;" (.ref a1)
set_option maxRecDepth 65536 in
set_option maxHeartbeats 40000000 in
theorem rmOf (l : Launch) (Z : State) (a0 : Array Value) (hw : HW a0 Z) (ws : List Jvm.Cond) (a1 : Addr) (h0 : Heap) (n0 : Nat) (Z0 : n0 ≤ h0.size) :
    MF l Z mN10 jdk_32_method_3_code 1 (some (.object "java/util/Optional")) ws rKOf #[(.ref a1)] h0 (QOf Z a1 h0 n0) := by
  refine MetFree.of_bodySF (plainFor_of_name pn4) hisR ?_
  intro p e s m args bl meth c s1 Bd hml0 hP hK
  obtain ⟨rfl, hZ, hh⟩ := hP
  have hx := Bd.exec
  have hby := Bd.bytes
  have B := @hb c _ hby
  have hM := fun {n : Nat} (h : n = 1) => h.trans hml0.symm
  have hown : s.vm.findClass "java/util/Optional" = some m.cls := findClass_of_methodNamed Bd.named
  have hlk : meth.locks = false := BodyLoose.notSynchronized Bd
  have hrt : ∀ {v : Option Value}, meth.sig.returnType = none → v = none := fun h => by rw [Bd.returns] at h; cases h
  have X0 : Stand p l e rKOf s m #[(.ref a1)] bl meth c s1 [] 0 0 := Stand.of_body Bd
  have e0 : s1.heap = h0 := by rw [← hh, Bd.state]; rfl
  have N0 := Fr.nil n0
  obtain ⟨EF, hEF⟩ : ∃ f, f = entryFrame m #[(.ref a1)] 1 := ⟨_, rfl⟩
  have pre0 : Go p e bl s1 (mkF m 0 #[rv a1] []) s1 EF := fun t k => by rw [hEF]; exact castTop (efOf m a1) k
  obtain ⟨T1, h1, X1, e1, Et1, A1, D1, U1, st1⟩ := newO X0 hx hZ hown (hw _ (mW 76 rfl)) (hw _ (mW 77 rfl)) (hw _ (mW 74 rfl)) e0 (g := (mkF m 0 #[rv a1] [])) rfl (B d10_0) (by decide) (by decide)
  obtain ⟨b1, g1⟩ : ∃ z, z = h0.size := ⟨_, rfl⟩
  rw [← g1] at A1 st1 D1
  have g_b1 : n0 ≤ b1 := Nat.le_trans Z0 (Nat.le_of_eq g1.symm)
  have sz_b1 : h0.size ≤ b1 := Nat.le_trans (Keep.refl h0 []).1 (Nat.le_of_eq g1.symm)
  have pre2 : Go p e bl T1 (mkF m 3 #[rv a1] [(.ref b1)]) s1 EF := fun t k => pre0 t (st1 t k)
  have Z3 : n0 ≤ h1.size := Nat.le_trans Z0 Et1.1
  have K3 : Keep h0 h1 [] := (Keep.refl h0 []).ext Et1
  have F_value_b1 : Fld Z h1 b1 "java/util/Optional" "value" "Ljava/lang/Object;" .null := D1 (Or.inr (hw _ (mW 87 rfl))) (ty := (.object "java/lang/Object")) (by decide)
  have pre4 : Go p e bl T1 (mkF m 5 #[rv a1] [(.ref a1), (.ref b1), (.ref b1)]) s1 EF := fun t k => pre2 t (by
   refine XS.dup X1.here hx rfl (B d10_3) rfl rfl ?_
   exact XS.aloadN X1.here hx rfl (B d10_4) rfl rfl k)
  obtain ⟨_, _, ⟨T5, L5, k5, n5⟩, -, X5, ⟨Lc5, hQ5, l5, y5, z5⟩, st5⟩ := Jvm.LawKit.callS X1 hx (y := mN8) hown (mvT hZ (hw _ (mW 78 rfl))) (mvT hZ (hw _ (mW 79 rfl))) (mvT hZ (hw _ (mW 43 rfl))) (mvT hZ (hw _ (mW 80 rfl))) (by decide) (backOf (W := 2) (rmN1 l Z a0 hw [] a1 h1 n0 Z3) hZ (hw _ (mW 80 rfl)) (hw _ (mW 43 rfl)) (by decide) (by decide)) (g := (mkF m 5 #[rv a1] [(.ref a1), (.ref b1), (.ref b1)])) rfl (hM rfl) (argsL := [(.ref a1)]) (rest := [(.ref b1), (.ref b1)]) (lenOf pd5 rfl) rfl (Nat.le_of_eq rfl) (B d10_5) (fun _ _ => ⟨rfl, e1, wl rfl, wl rfl⟩)
  dsimp only [Pt.U, Pt.locs, Pt.cells, Pt.slots] at X5 l5 y5 z5 st5 hQ5
  subst l5 y5 z5
  obtain ⟨rfl, N5q, hq5⟩ := hQ5
  have N5 := Fr.app N0 N5q
  have pre6 : Go p e bl T5 (mkF m 8 #[rv a1] [(.ref a1), (.ref b1), (.ref b1)]) s1 EF := fun t k => pre4 t (st5 t k)
  have e5 : T5.heap = h1 := hq5
  obtain ⟨_, _, ⟨T7, L7, k7, n7⟩, -, X7, ⟨Lc7, hQ7, l7, y7, z7⟩, st7⟩ := X5.specialBack hx (y := mN9) rfl hown (mvT hZ (hw _ (mW 81 rfl))) (mvT hZ (hw _ (mW 82 rfl))) (mvT hZ (hw _ (mW 84 rfl))) (by decide) (backOf (W := 1) (rmOi l Z a0 hw [] b1 a1 h1 n0 Z3 A1 g_b1 F_value_b1) hZ (hw _ (mW 84 rfl)) (hw _ (mW 74 rfl)) (by decide) (by decide)) (g := (mkF m 8 #[rv a1] [(.ref a1), (.ref b1), (.ref b1)])) rfl (hM rfl) (Steps.refl _) (a := b1) (argsL := [(.ref a1)]) (rest := [(.ref b1)]) (lenOf pd6 rfl) rfl (Nat.le_of_eq rfl) (B d10_8) (fun _ _ => ⟨rfl, e5, wl rfl, wl rfl⟩)
  dsimp only [Pt.U, Pt.locs, Pt.cells, Pt.slots] at X7 l7 y7 z7 st7 hQ7
  subst l7 y7 z7
  obtain ⟨rfl, N7q, K7, EO7, FO7⟩ := hQ7
  have N7 := Fr.app N5 N7q
  have pre8 : Go p e bl T7 (mkF m 11 #[rv a1] [(.ref b1)]) s1 EF := fun t k => pre6 t (st7.trans k)
  have Z9 : n0 ≤ T7.heap.size := Nat.le_trans Z3 K7.1
  have K9 : Keep h0 T7.heap [] := K3.trans K7 (allS (Or.inr sz_b1) all0)
  exact fin1 X7 (v := some (.ref b1)) hrt hlk (wl rfl) (wl rfl) (by exact ⟨_, rfl, N7, K9, EO7, FO7⟩) (fun fs hr => hEF ▸ pre8 _ (retOut X7 hx Bd.returns rfl (Or.inr (Or.inr (Or.inr (Or.inr ⟨rfl, rfl, rfl⟩)))) (B d10_11) hr))
abbrev rKIp : Room := { frames := 0, cells := 0, slots := 0, locals := 0 }
theorem d11_0 : decode jdk_32_method_6_code 0 = .ok (.aload_n 0, 1) := by decide +kernel
theorem d11_1 : decode jdk_32_method_6_code 1 = .ok (.getfield 13, 3) := by decide +kernel
theorem d11_4 : decode jdk_32_method_6_code 4 = .ok (.ifnull 7, 3) := by decide +kernel
theorem d11_7 : decode jdk_32_method_6_code 7 = .ok (.iconst 1, 1) := by decide +kernel
theorem d11_8 : decode jdk_32_method_6_code 8 = .ok (.goto 4, 3) := by decide +kernel
theorem d11_12 : decode jdk_32_method_6_code 12 = .ok (.ireturn, 1) := by decide +kernel
theorem efIp (m : MethodId) (a1 : Addr) : entryFrame m #[(.ref a1)] 1 = mkF m 0 #[rv a1] [] := by first | (simp [entryFrame, mkF, argsToLocals, Value.category]; done) | rfl
def QIp (Z : State) (a1 : Addr) (x1 : Addr) (h0 : Heap) (n0 : Nat) (v : Option Value) (h : Heap) (L : List Loc) : Prop := v = some (.int 1) ∧ Fr n0 L ∧ h = h0
set_option maxRecDepth 65536 in
set_option maxHeartbeats 40000000 in
theorem rmIp (l : Launch) (Z : State) (a0 : Array Value) (hw : HW a0 Z) (ws : List Jvm.Cond) (a1 : Addr) (x1 : Addr) (h0 : Heap) (n0 : Nat) (Z0 : n0 ≤ h0.size) (F1 : Fld Z h0 a1 "java/util/Optional" "value" "Ljava/lang/Object;" (.ref x1)) :
    MF l Z mN11 jdk_32_method_6_code 1 (some .boolean) ws rKIp #[(.ref a1)] h0 (QIp Z a1 x1 h0 n0) := by
  refine MetFree.of_bodySF (plainFor_of_name pn4) hisR ?_
  intro p e s m args bl meth c s1 Bd hml0 hP hK
  obtain ⟨rfl, hZ, hh⟩ := hP
  have hx := Bd.exec
  have hby := Bd.bytes
  have B := @hb c _ hby
  have hown : s.vm.findClass "java/util/Optional" = some m.cls := findClass_of_methodNamed Bd.named
  have hlk : meth.locks = false := BodyLoose.notSynchronized Bd
  have hrt : ∀ {v : Option Value}, meth.sig.returnType = none → v = none := fun h => by rw [Bd.returns] at h; cases h
  have X0 : Stand p l e rKIp s m #[(.ref a1)] bl meth c s1 [] 0 0 := Stand.of_body Bd
  have e0 : s1.heap = h0 := by rw [← hh, Bd.state]; rfl
  have N0 := Fr.nil n0
  obtain ⟨EF, hEF⟩ : ∃ f, f = entryFrame m #[(.ref a1)] 1 := ⟨_, rfl⟩
  have pre0 : Go p e bl s1 (mkF m 0 #[rv a1] []) s1 EF := fun t k => by rw [hEF]; exact castTop (efIp m a1) k
  have pre1 : Go p e bl s1 (mkF m 1 #[rv a1] [(.ref a1)]) s1 EF := fun t k => pre0 t (by
   exact XS.aloadN X0.here hx rfl (B d11_0) rfl rfl k)
  obtain ⟨T2, X2, e2, st2⟩ := getF X0 hx hZ hown (host := "") (Or.inl (hw _ (mW 86 rfl))) Via.refl e0 F1 (g := (mkF m 1 #[rv a1] [(.ref a1)])) rfl rfl (B d11_1)
  have pre3 : Go p e bl T2 (mkF m 4 #[rv a1] [(.ref x1)]) s1 EF := fun t k => pre1 t (st2 t k)
  have pre4 : Go p e bl T2 (mkF m 12 #[rv a1] [(.int 1)]) s1 EF := fun t k => pre3 t (by
   refine XS.ifnullNo X2.here hx rfl (B d11_4) rfl ?_
   refine XS.iconst X2.here hx rfl (B d11_7) ?_
   exact XS.goto X2.here hx rfl (pc0 := 8) (pc' := 12) rfl (B d11_8) (by decide) (by decide) k)
  have hnr : Value.int (nar .boolean (1 : Int32)) = (.int 1) := by rfl
  exact fin1 X2 (v := some (.int 1)) hrt hlk (wl rfl) (wl rfl) (by rw [e2]; exact ⟨rfl, N0, rfl⟩) (fun fs hr => hEF ▸ pre4 _ (retN X2 hx (t := .boolean) Bd.returns (by simp) (B d11_12) (hnr ▸ hr)))
abbrev rKIe : Room := { frames := 0, cells := 0, slots := 0, locals := 0 }
theorem d11_11 : decode jdk_32_method_6_code 11 = .ok (.iconst 0, 1) := by decide +kernel
theorem efIe (m : MethodId) (a1 : Addr) : entryFrame m #[(.ref a1)] 1 = mkF m 0 #[rv a1] [] := by first | (simp [entryFrame, mkF, argsToLocals, Value.category]; done) | rfl
def QIe (Z : State) (a1 : Addr) (h0 : Heap) (n0 : Nat) (v : Option Value) (h : Heap) (L : List Loc) : Prop := v = some (.int 0) ∧ Fr n0 L ∧ h = h0
set_option maxRecDepth 65536 in
set_option maxHeartbeats 40000000 in
theorem rmIe (l : Launch) (Z : State) (a0 : Array Value) (hw : HW a0 Z) (ws : List Jvm.Cond) (a1 : Addr) (h0 : Heap) (n0 : Nat) (Z0 : n0 ≤ h0.size) (F1 : Fld Z h0 a1 "java/util/Optional" "value" "Ljava/lang/Object;" .null) :
    MF l Z mN11 jdk_32_method_6_code 1 (some .boolean) ws rKIe #[(.ref a1)] h0 (QIe Z a1 h0 n0) := by
  refine MetFree.of_bodySF (plainFor_of_name pn4) hisR ?_
  intro p e s m args bl meth c s1 Bd hml0 hP hK
  obtain ⟨rfl, hZ, hh⟩ := hP
  have hx := Bd.exec
  have hby := Bd.bytes
  have B := @hb c _ hby
  have hown : s.vm.findClass "java/util/Optional" = some m.cls := findClass_of_methodNamed Bd.named
  have hlk : meth.locks = false := BodyLoose.notSynchronized Bd
  have hrt : ∀ {v : Option Value}, meth.sig.returnType = none → v = none := fun h => by rw [Bd.returns] at h; cases h
  have X0 : Stand p l e rKIe s m #[(.ref a1)] bl meth c s1 [] 0 0 := Stand.of_body Bd
  have e0 : s1.heap = h0 := by rw [← hh, Bd.state]; rfl
  have N0 := Fr.nil n0
  obtain ⟨EF, hEF⟩ : ∃ f, f = entryFrame m #[(.ref a1)] 1 := ⟨_, rfl⟩
  have pre0 : Go p e bl s1 (mkF m 0 #[rv a1] []) s1 EF := fun t k => by rw [hEF]; exact castTop (efIe m a1) k
  have pre1 : Go p e bl s1 (mkF m 1 #[rv a1] [(.ref a1)]) s1 EF := fun t k => pre0 t (by
   exact XS.aloadN X0.here hx rfl (B d11_0) rfl rfl k)
  obtain ⟨T2, X2, e2, st2⟩ := getF X0 hx hZ hown (host := "") (Or.inl (hw _ (mW 86 rfl))) Via.refl e0 F1 (g := (mkF m 1 #[rv a1] [(.ref a1)])) rfl rfl (B d11_1)
  have pre3 : Go p e bl T2 (mkF m 4 #[rv a1] [.null]) s1 EF := fun t k => pre1 t (st2 t k)
  have pre4 : Go p e bl T2 (mkF m 12 #[rv a1] [(.int 0)]) s1 EF := fun t k => pre3 t (by
   refine XS.ifnullYes X2.here hx rfl (pc0 := 4) (pc' := 11) rfl (B d11_4) rfl (by decide) (by decide) ?_
   exact XS.iconst X2.here hx rfl (B d11_11) k)
  have hnr : Value.int (nar .boolean (0 : Int32)) = (.int 0) := by rfl
  exact fin1 X2 (v := some (.int 0)) hrt hlk (wl rfl) (wl rfl) (by rw [e2]; exact ⟨rfl, N0, rfl⟩) (fun fs hr => hEF ▸ pre4 _ (retN X2 hx (t := .boolean) Bd.returns (by simp) (B d11_12) (hnr ▸ hr)))
abbrev rKGt : Room := { frames := 0, cells := 0, slots := 0, locals := 0 }
theorem d12_0 : decode jdk_32_method_5_code 0 = .ok (.aload_n 0, 1) := by decide +kernel
theorem d12_1 : decode jdk_32_method_5_code 1 = .ok (.getfield 13, 3) := by decide +kernel
theorem d12_4 : decode jdk_32_method_5_code 4 = .ok (.ifnonnull 13, 3) := by decide +kernel
theorem d12_17 : decode jdk_32_method_5_code 17 = .ok (.aload_n 0, 1) := by decide +kernel
theorem d12_18 : decode jdk_32_method_5_code 18 = .ok (.getfield 13, 3) := by decide +kernel
theorem d12_21 : decode jdk_32_method_5_code 21 = .ok (.areturn, 1) := by decide +kernel
theorem efGt (m : MethodId) (a1 : Addr) : entryFrame m #[(.ref a1)] 1 = mkF m 0 #[rv a1] [] := by first | (simp [entryFrame, mkF, argsToLocals, Value.category]; done) | rfl
def QGt (Z : State) (a1 : Addr) (x1 : Addr) (h0 : Heap) (n0 : Nat) (v : Option Value) (h : Heap) (L : List Loc) : Prop := v = some (.ref x1) ∧ Fr n0 L ∧ h = h0
set_option maxRecDepth 65536 in
set_option maxHeartbeats 40000000 in
theorem rmGt (l : Launch) (Z : State) (a0 : Array Value) (hw : HW a0 Z) (ws : List Jvm.Cond) (a1 : Addr) (x1 : Addr) (h0 : Heap) (n0 : Nat) (Z0 : n0 ≤ h0.size) (F1 : Fld Z h0 a1 "java/util/Optional" "value" "Ljava/lang/Object;" (.ref x1)) :
    MF l Z mN12 jdk_32_method_5_code 1 (some (.object "java/lang/Object")) ws rKGt #[(.ref a1)] h0 (QGt Z a1 x1 h0 n0) := by
  refine MetFree.of_bodySF (plainFor_of_name pn4) hisR ?_
  intro p e s m args bl meth c s1 Bd hml0 hP hK
  obtain ⟨rfl, hZ, hh⟩ := hP
  have hx := Bd.exec
  have hby := Bd.bytes
  have B := @hb c _ hby
  have hown : s.vm.findClass "java/util/Optional" = some m.cls := findClass_of_methodNamed Bd.named
  have hlk : meth.locks = false := BodyLoose.notSynchronized Bd
  have hrt : ∀ {v : Option Value}, meth.sig.returnType = none → v = none := fun h => by rw [Bd.returns] at h; cases h
  have X0 : Stand p l e rKGt s m #[(.ref a1)] bl meth c s1 [] 0 0 := Stand.of_body Bd
  have e0 : s1.heap = h0 := by rw [← hh, Bd.state]; rfl
  have N0 := Fr.nil n0
  obtain ⟨EF, hEF⟩ : ∃ f, f = entryFrame m #[(.ref a1)] 1 := ⟨_, rfl⟩
  have pre0 : Go p e bl s1 (mkF m 0 #[rv a1] []) s1 EF := fun t k => by rw [hEF]; exact castTop (efGt m a1) k
  have pre1 : Go p e bl s1 (mkF m 1 #[rv a1] [(.ref a1)]) s1 EF := fun t k => pre0 t (by
   exact XS.aloadN X0.here hx rfl (B d12_0) rfl rfl k)
  obtain ⟨T2, X2, e2, st2⟩ := getF X0 hx hZ hown (host := "") (Or.inl (hw _ (mW 86 rfl))) Via.refl e0 F1 (g := (mkF m 1 #[rv a1] [(.ref a1)])) rfl rfl (B d12_1)
  have pre3 : Go p e bl T2 (mkF m 4 #[rv a1] [(.ref x1)]) s1 EF := fun t k => pre1 t (st2 t k)
  have pre4 : Go p e bl T2 (mkF m 18 #[rv a1] [(.ref a1)]) s1 EF := fun t k => pre3 t (by
   refine XS.ifnonnullYes X2.here hx rfl (pc0 := 4) (pc' := 17) rfl (B d12_4) rfl (by decide) (by decide) ?_
   exact XS.aloadN X2.here hx rfl (B d12_17) rfl rfl k)
  obtain ⟨T5, X5, e5, st5⟩ := getF X2 hx hZ hown (host := "") (Or.inl (hw _ (mW 86 rfl))) Via.refl e2 F1 (g := (mkF m 18 #[rv a1] [(.ref a1)])) rfl rfl (B d12_18)
  have pre6 : Go p e bl T5 (mkF m 21 #[rv a1] [(.ref x1)]) s1 EF := fun t k => pre4 t (st5 t k)
  exact fin1 X5 (v := some (.ref x1)) hrt hlk (wl rfl) (wl rfl) (by rw [e5]; exact ⟨rfl, N0, rfl⟩) (fun fs hr => hEF ▸ pre6 _ (retOut X5 hx Bd.returns rfl (Or.inr (Or.inr (Or.inr (Or.inr ⟨rfl, rfl, rfl⟩)))) (B d12_21) hr))
def Prk (Z : State) (va w0 w1 eo z0 z1 v0 v1 : Addr) (kv k0 k1 : ClassId) : Prop := Sta Z Z.heap "com/example/picketline/picketline/protocol/Protocol" "$VALUES" "[Lcom/example/picketline/picketline/protocol/Protocol;" (.ref va) ∧ Exa Z Z.heap va "[Lcom/example/picketline/picketline/protocol/Protocol;" ∧ Arv Z Z.heap va kv (.object "com/example/picketline/picketline/protocol/Protocol") (2 : Int32) [(.ref w0), (.ref w1)] .null ∧ Sta Z Z.heap "com/example/picketline/picketline/protocol/Protocol" "OBLIVIOUS" "Lcom/example/picketline/picketline/protocol/Protocol;" (.ref w0) ∧ Sta Z Z.heap "com/example/picketline/picketline/protocol/Protocol" "TWO_BIT" "Lcom/example/picketline/picketline/protocol/Protocol;" (.ref w1) ∧ Sta Z Z.heap "java/util/Optional" "EMPTY" "Ljava/util/Optional;" (.ref eo) ∧ Exa Z Z.heap eo "java/util/Optional" ∧ Fld Z Z.heap eo "java/util/Optional" "value" "Ljava/lang/Object;" .null ∧ Exa Z Z.heap w0 "com/example/picketline/picketline/protocol/Protocol$1" ∧ Exa Z Z.heap w1 "com/example/picketline/picketline/protocol/Protocol$2" ∧ Fld Z Z.heap w0 "com/example/picketline/picketline/protocol/Protocol" "word" "Ljava/lang/String;" (.ref z0) ∧ Fld Z Z.heap w1 "com/example/picketline/picketline/protocol/Protocol" "word" "Ljava/lang/String;" (.ref z1) ∧ StL Z Z.heap z0 v0 k0 9 C9 0 0 ∧ StL Z Z.heap z1 v1 k1 7 C7 0 0 ∧ True
abbrev rKOe : Room := { frames := 0, cells := 0, slots := 0, locals := 0 }
theorem d13_0 : decode jdk_32_method_1_code 0 = .ok (.getstatic 1, 3) := by decide +kernel
theorem d13_3 : decode jdk_32_method_1_code 3 = .ok (.astore_n 0, 1) := by decide +kernel
theorem d13_4 : decode jdk_32_method_1_code 4 = .ok (.aload_n 0, 1) := by decide +kernel
theorem d13_5 : decode jdk_32_method_1_code 5 = .ok (.areturn, 1) := by decide +kernel
theorem efOe (m : MethodId)  : entryFrame m #[] 1 = mkF m 0 #[.unset] [] := by first | (simp [entryFrame, mkF, argsToLocals, Value.category]; done) | rfl
def QOe (Z : State) (cz : Int32) (fv : Value) (va : Addr) (w0 : Addr) (w1 : Addr) (eo : Addr) (z0 : Addr) (z1 : Addr) (v0 : Addr) (v1 : Addr) (kv : ClassId) (k0 : ClassId) (k1 : ClassId) (h0 : Heap) (n0 : Nat) (v : Option Value) (h : Heap) (L : List Loc) : Prop := v = some (.ref eo) ∧ Fr n0 L ∧ h = h0
set_option maxRecDepth 65536 in
set_option maxHeartbeats 40000000 in
theorem rmOe (l : Launch) (Z : State) (a0 : Array Value) (hw : HW a0 Z) (ws : List Jvm.Cond) (cz : Int32) (fv : Value) (va : Addr) (w0 : Addr) (w1 : Addr) (eo : Addr) (z0 : Addr) (z1 : Addr) (v0 : Addr) (v1 : Addr) (kv : ClassId) (k0 : ClassId) (k1 : ClassId) (h0 : Heap) (n0 : Nat) (Z0 : n0 ≤ h0.size) (O0 : Old Z n0 h0) (J0 : Jd Z cz fv) (PP : Prk Z va w0 w1 eo z0 z1 v0 v1 kv k0 k1) :
    MF l Z mN13 jdk_32_method_1_code 1 (some (.object "java/util/Optional")) ws rKOe #[] h0 (QOe Z cz fv va w0 w1 eo z0 z1 v0 v1 kv k0 k1 h0 n0) := by
  refine MetFree.of_bodySF (plainFor_of_name pn4) hisR ?_
  intro p e s m args bl meth c s1 Bd hml0 hP hK
  obtain ⟨rfl, hZ, hh⟩ := hP
  have hx := Bd.exec
  have hby := Bd.bytes
  have B := @hb c _ hby
  have hown : s.vm.findClass "java/util/Optional" = some m.cls := findClass_of_methodNamed Bd.named
  have hlk : meth.locks = false := BodyLoose.notSynchronized Bd
  have hrt : ∀ {v : Option Value}, meth.sig.returnType = none → v = none := fun h => by rw [Bd.returns] at h; cases h
  have X0 : Stand p l e rKOe s m #[] bl meth c s1 [] 0 0 := Stand.of_body Bd
  have e0 : s1.heap = h0 := by rw [← hh, Bd.state]; rfl
  have N0 := Fr.nil n0
  obtain ⟨EF, hEF⟩ : ∃ f, f = entryFrame m #[] 1 := ⟨_, rfl⟩
  have pre0 : Go p e bl s1 (mkF m 0 #[.unset] []) s1 EF := fun t k => by rw [hEF]; exact castTop (efOe m ) k
  obtain ⟨T1, X1, e1, st1⟩ := getS2 X0 hx hZ hown (host := "") (Or.inl (hw _ (mW 107 rfl))) Via.refl e0 (PP.2.2.2.2.2.1.ext O0.2) (g := (mkF m 0 #[.unset] [])) rfl (B d13_0)
  have pre2 : Go p e bl T1 (mkF m 3 #[.unset] [(.ref eo)]) s1 EF := fun t k => pre0 t (st1 t k)
  have pre3 : Go p e bl T1 (mkF m 5 #[rv eo] [(.ref eo)]) s1 EF := fun t k => pre2 t (by
   refine XS.astoreN X1.here hx rfl (B d13_3) rfl rfl (l' := #[rv eo]) rfl ?_
   exact XS.aloadN X1.here hx rfl (B d13_4) rfl rfl k)
  exact fin1 X1 (v := some (.ref eo)) hrt hlk (wl rfl) (wl rfl) (by rw [e1]; exact ⟨rfl, N0, rfl⟩) (fun fs hr => hEF ▸ pre3 _ (retOut X1 hx Bd.returns rfl (Or.inr (Or.inr (Or.inr (Or.inr ⟨rfl, rfl, rfl⟩)))) (B d13_5) hr))
abbrev rKVa : Room := { frames := 1, cells := 1, slots := 2, locals := 14 }
theorem d14_0 : decode prog_34_method_1_code 0 = .ok (.getstatic 10, 3) := by decide +kernel
theorem d14_3 : decode prog_34_method_1_code 3 = .ok (.invokevirtual 14, 3) := by decide +kernel
theorem d14_6 : decode prog_34_method_1_code 6 = .ok (.checkcast 15, 3) := by decide +kernel
theorem d14_9 : decode prog_34_method_1_code 9 = .ok (.areturn, 1) := by decide +kernel
theorem pn5 : plainName "com/example/picketline/picketline/protocol/Protocol" = true := by first | (simp [plainName, overriddenIn]; done) | decide +kernel
theorem efVa (m : MethodId)  : entryFrame m #[] 0 = mkF m 0 #[] [] := by first | (simp [entryFrame, mkF, argsToLocals, Value.category]; done) | rfl
def QVa (Z : State) (cz : Int32) (fv : Value) (va : Addr) (w0 : Addr) (w1 : Addr) (eo : Addr) (z0 : Addr) (z1 : Addr) (v0 : Addr) (v1 : Addr) (kv : ClassId) (k0 : ClassId) (k1 : ClassId) (h0 : Heap) (n0 : Nat) (v : Option Value) (h : Heap) (L : List Loc) : Prop := ∃ b, v = some (.ref b) ∧ Fr n0 L ∧ Keep h0 h [] ∧ Arv Z h b kv (.object "com/example/picketline/picketline/protocol/Protocol") (2 : Int32) [(.ref w0), (.ref w1)] .null
set_option maxRecDepth 65536 in
set_option maxHeartbeats 40000000 in
theorem rmVa (l : Launch) (Z : State) (a0 : Array Value) (hw : HW a0 Z) (ws : List Jvm.Cond) (cz : Int32) (fv : Value) (va : Addr) (w0 : Addr) (w1 : Addr) (eo : Addr) (z0 : Addr) (z1 : Addr) (v0 : Addr) (v1 : Addr) (kv : ClassId) (k0 : ClassId) (k1 : ClassId) (h0 : Heap) (n0 : Nat) (Z0 : n0 ≤ h0.size) (O0 : Old Z n0 h0) (J0 : Jd Z cz fv) (PP : Prk Z va w0 w1 eo z0 z1 v0 v1 kv k0 k1) :
    MF l Z mN14 prog_34_method_1_code 0 (some (.array (.object "com/example/picketline/picketline/protocol/Protocol"))) ws rKVa #[] h0 (QVa Z cz fv va w0 w1 eo z0 z1 v0 v1 kv k0 k1 h0 n0) := by
  refine MetFree.of_bodySF (plainFor_of_name pn5) hisR ?_
  intro p e s m args bl meth c s1 Bd hml0 hP hK
  obtain ⟨rfl, hZ, hh⟩ := hP
  have hx := Bd.exec
  have hby := Bd.bytes
  have B := @hb c _ hby
  have hM := fun {n : Nat} (h : n = 0) => h.trans hml0.symm
  have hown : s.vm.findClass "com/example/picketline/picketline/protocol/Protocol" = some m.cls := findClass_of_methodNamed Bd.named
  have hlk : meth.locks = false := BodyLoose.notSynchronized Bd
  have hrt : ∀ {v : Option Value}, meth.sig.returnType = none → v = none := fun h => by rw [Bd.returns] at h; cases h
  have X0 : Stand p l e rKVa s m #[] bl meth c s1 [] 0 0 := Stand.of_body Bd
  have e0 : s1.heap = h0 := by rw [← hh, Bd.state]; rfl
  have N0 := Fr.nil n0
  obtain ⟨EF, hEF⟩ : ∃ f, f = entryFrame m #[] 0 := ⟨_, rfl⟩
  have pre0 : Go p e bl s1 (mkF m 0 #[] []) s1 EF := fun t k => by rw [hEF]; exact castTop (efVa m ) k
  obtain ⟨T1, X1, e1, st1⟩ := getS2 X0 hx hZ hown (host := "") (Or.inl (hw _ (mW 48 rfl))) Via.refl e0 (PP.1.ext O0.2) (g := (mkF m 0 #[] [])) rfl (B d14_0)
  have pre2 : Go p e bl T1 (mkF m 3 #[] [(.ref va)]) s1 EF := fun t k => pre0 t (st1 t k)
  obtain ⟨T3, h3, X3, e3, Et3, A3, AX3, st3⟩ := cloneH X1 hx hZ hown (hw _ (mW 50 rfl)) (hw _ (mW 51 rfl)) (hw _ (mW 55 rfl)) (hw _ (mW 53 rfl)) (hw _ (mW 54 rfl)) (hw _ (mW 56 rfl)) e1 (Arv.arh (PP.2.2.1.ext O0.2)) (PP.2.1.ext O0.2) (g := (mkF m 3 #[] [(.ref va)])) rfl (hM rfl) rfl (B d14_3) (by decide) (W := 0) (Nat.le_of_eq rfl) (by decide) (cap := 2) (by decide) (by decide) (by decide)
  obtain ⟨b3, g3⟩ : ∃ z, z = h0.size := ⟨_, rfl⟩
  rw [← g3] at A3 st3 AX3
  have g_b3 : n0 ≤ b3 := Nat.le_trans Z0 (Nat.le_of_eq g3.symm)
  have sz_b3 : h0.size ≤ b3 := Nat.le_trans (Keep.refl h0 []).1 (Nat.le_of_eq g3.symm)
  have pre4 : Go p e bl T3 (mkF m 6 #[] [(.ref b3)]) s1 EF := fun t k => pre2 t (st3 t k)
  have O5 : Old Z n0 h3 := O0.ext Et3
  have Z5 : n0 ≤ h3.size := Nat.le_trans Z0 Et3.1
  have K5 : Keep h0 h3 [] := (Keep.refl h0 []).ext Et3
  have V3 : Arv Z h3 b3 kv (.object "com/example/picketline/picketline/protocol/Protocol") (2 : Int32) [(.ref w0), (.ref w1)] .null := A3
  obtain ⟨T6, X6, e6, st6⟩ := castY X3 hx hZ hown (hw _ (mW 58 rfl)) e3 (Ins.self AX3) (g := (mkF m 6 #[] [(.ref b3)])) rfl rfl (B d14_6)
  have pre7 : Go p e bl T6 (mkF m 9 #[] [(.ref b3)]) s1 EF := fun t k => pre4 t (st6 t k)
  exact fin1 X6 (v := some (.ref b3)) hrt hlk (wl rfl) (wl rfl) (by rw [e6]; exact ⟨_, rfl, N0, K5, V3⟩) (fun fs hr => hEF ▸ pre7 _ (retOut X6 hx Bd.returns rfl (Or.inr (Or.inr (Or.inr (Or.inr ⟨rfl, rfl, rfl⟩)))) (B d14_9) hr))
abbrev rKNm : Room := { frames := 3, cells := 4, slots := 23, locals := 38 }
theorem d15_0 : decode prog_34_method_4_code 0 = .ok (.aload_n 0, 1) := by decide +kernel
theorem d15_1 : decode prog_34_method_4_code 1 = .ok (.ldc 37, 2) := by decide +kernel
theorem d15_3 : decode prog_34_method_4_code 3 = .ok (.invokestatic 38, 3) := by decide +kernel
theorem d15_6 : decode prog_34_method_4_code 6 = .ok (.pop, 1) := by decide +kernel
theorem d15_7 : decode prog_34_method_4_code 7 = .ok (.invokestatic 44, 3) := by decide +kernel
theorem d15_10 : decode prog_34_method_4_code 10 = .ok (.astore_n 1, 1) := by decide +kernel
theorem d15_11 : decode prog_34_method_4_code 11 = .ok (.aload_n 1, 1) := by decide +kernel
theorem d15_12 : decode prog_34_method_4_code 12 = .ok (.arraylength, 1) := by decide +kernel
theorem d15_13 : decode prog_34_method_4_code 13 = .ok (.istore_n 2, 1) := by decide +kernel
theorem d15_14 : decode prog_34_method_4_code 14 = .ok (.iconst 0, 1) := by decide +kernel
theorem d15_15 : decode prog_34_method_4_code 15 = .ok (.istore_n 3, 1) := by decide +kernel
theorem d15_16 : decode prog_34_method_4_code 16 = .ok (.iload_n 3, 1) := by decide +kernel
theorem d15_17 : decode prog_34_method_4_code 17 = .ok (.iload_n 2, 1) := by decide +kernel
theorem d15_18 : decode prog_34_method_4_code 18 = .ok (.if_icmp .ge 32, 3) := by decide +kernel
theorem d15_21 : decode prog_34_method_4_code 21 = .ok (.aload_n 1, 1) := by decide +kernel
theorem d15_22 : decode prog_34_method_4_code 22 = .ok (.iload_n 3, 1) := by decide +kernel
theorem d15_23 : decode prog_34_method_4_code 23 = .ok (.aaload, 1) := by decide +kernel
theorem d15_24 : decode prog_34_method_4_code 24 = .ok (.astore 4, 2) := by decide +kernel
theorem d15_26 : decode prog_34_method_4_code 26 = .ok (.aload 4, 2) := by decide +kernel
theorem d15_28 : decode prog_34_method_4_code 28 = .ok (.getfield 29, 3) := by decide +kernel
theorem d15_31 : decode prog_34_method_4_code 31 = .ok (.aload_n 0, 1) := by decide +kernel
theorem d15_32 : decode prog_34_method_4_code 32 = .ok (.invokevirtual 48, 3) := by decide +kernel
theorem d15_35 : decode prog_34_method_4_code 35 = .ok (.ifCond .eq 9, 3) := by decide +kernel
theorem d15_38 : decode prog_34_method_4_code 38 = .ok (.aload 4, 2) := by decide +kernel
theorem d15_40 : decode prog_34_method_4_code 40 = .ok (.invokestatic 54, 3) := by decide +kernel
theorem d15_43 : decode prog_34_method_4_code 43 = .ok (.areturn, 1) := by decide +kernel
theorem d15_44 : decode prog_34_method_4_code 44 = .ok (.iinc 3 1, 3) := by decide +kernel
theorem d15_47 : decode prog_34_method_4_code 47 = .ok (.goto (-31), 3) := by decide +kernel
theorem d15_50 : decode prog_34_method_4_code 50 = .ok (.invokestatic 60, 3) := by decide +kernel
theorem d15_53 : decode prog_34_method_4_code 53 = .ok (.areturn, 1) := by decide +kernel
theorem pd7 : parseMethodDescriptor "(Ljava/lang/Object;Ljava/lang/String;)Ljava/lang/Object;" = some ⟨[(.object "java/lang/Object"), (.object "java/lang/String")], some (.object "java/lang/Object")⟩ := by decide +kernel
theorem pd8 : parseMethodDescriptor "()[Lcom/example/picketline/picketline/protocol/Protocol;" = some ⟨[], some (.array (.object "com/example/picketline/picketline/protocol/Protocol"))⟩ := by decide +kernel
theorem pd9 : parseMethodDescriptor "(Ljava/lang/Object;)Z" = some ⟨[(.object "java/lang/Object")], some .boolean⟩ := by decide +kernel
theorem pd10 : parseMethodDescriptor "()Ljava/util/Optional;" = some ⟨[], some (.object "java/util/Optional")⟩ := by decide +kernel
theorem pd11 : parseMethodDescriptor "(Ljava/lang/Object;)Ljava/util/Optional;" = some ⟨[(.object "java/lang/Object")], some (.object "java/util/Optional")⟩ := by decide +kernel
theorem efNm (m : MethodId) (a1 : Addr) : entryFrame m #[(.ref a1)] 5 = mkF m 0 #[rv a1, .unset, .unset, .unset, .unset] [] := by first | (simp [entryFrame, mkF, argsToLocals, Value.category]; done) | rfl
def QNm (Z : State) (a1 : Addr) (cz : Int32) (fv : Value) (va : Addr) (w0 : Addr) (w1 : Addr) (eo : Addr) (z0 : Addr) (z1 : Addr) (v0 : Addr) (v1 : Addr) (kv : ClassId) (k0 : ClassId) (k1 : ClassId) (b : Addr) (k : ClassId) (n : Int32) (bs : List Int32) (h0 : Heap) (n0 : Nat) (v : Option Value) (h : Heap) (L : List Loc) : Prop := (eqB C9 bs = 1 ∧ ∃ o, v = some (.ref o) ∧ Fr n0 L ∧ Keep h0 h [] ∧ Exa Z h o "java/util/Optional" ∧ Fld Z h o "java/util/Optional" "value" "Ljava/lang/Object;" (.ref w0)) ∨ (eqB C9 bs = 0 ∧ eqB C7 bs = 1 ∧ ∃ o, v = some (.ref o) ∧ Fr n0 L ∧ Keep h0 h [] ∧ Exa Z h o "java/util/Optional" ∧ Fld Z h o "java/util/Optional" "value" "Ljava/lang/Object;" (.ref w1)) ∨ (eqB C9 bs = 0 ∧ eqB C7 bs = 0 ∧ v = some (.ref eo) ∧ Fr n0 L ∧ Keep h0 h [])
set_option maxRecDepth 65536 in
set_option maxHeartbeats 40000000 in
theorem rmNm (l : Launch) (Z : State) (a0 : Array Value) (hw : HW a0 Z) (ws : List Jvm.Cond) (a1 : Addr) (cz : Int32) (fv : Value) (va : Addr) (w0 : Addr) (w1 : Addr) (eo : Addr) (z0 : Addr) (z1 : Addr) (v0 : Addr) (v1 : Addr) (kv : ClassId) (k0 : ClassId) (k1 : ClassId) (b : Addr) (k : ClassId) (n : Int32) (bs : List Int32) (h0 : Heap) (n0 : Nat) (Z0 : n0 ≤ h0.size) (O0 : Old Z n0 h0) (J0 : Jd Z cz fv) (PP : Prk Z va w0 w1 eo z0 z1 v0 v1 kv k0 k1) (SL : StL Z h0 a1 b k n bs 0 0) (gn : n.toInt = bs.length) :
    MetFree l mN15 (head1 (Jvm.Cond.code mN15 prog_34_method_4_code 5 (some (.object "java/util/Optional")) :: ws) rKNm) (fun a U => a = #[(.ref a1)] ∧ Z.Warmed39 U.vm ∧ U.heap = h0 ∧ CHv Z [("com/example/picketline/picketline/protocol/Protocol", 37), ("com/example/picketline/picketline/protocol/ProtocolNamedPinLaw", 20), ("com/example/picketline/picketline/protocol/ProtocolNamedPinLaw", 42), ("java/lang/String", 7)] U.vm h0) (fun _ _ _ _ _ => True) (fun _ U o U' => ∃ v L, o = .returned v ∧ QNm Z a1 cz fv va w0 w1 eo z0 z1 v0 v1 kv k0 k1 b k n bs h0 n0 v U'.heap L ∧ CHr Z [("com/example/picketline/picketline/protocol/Protocol", 37), ("com/example/picketline/picketline/protocol/ProtocolNamedPinLaw", 20), ("com/example/picketline/picketline/protocol/ProtocolNamedPinLaw", 42), ("java/lang/String", 7)] U.vm U.heap U'.vm U'.heap ∧ ReturnedEndW U o U' L rKNm.cells rKNm.slots) := by
  refine MetFree.of_bodySF (plainFor_of_name pn5) hisR ?_
  intro p e s m args bl meth c s1 Bd hml0 hP hK
  obtain ⟨rfl, hZ, hh, hC⟩ := hP
  have hx := Bd.exec
  have hby := Bd.bytes
  have B := @hb c _ hby
  have hM := fun {n : Nat} (h : n = 5) => h.trans hml0.symm
  have hown : s.vm.findClass "com/example/picketline/picketline/protocol/Protocol" = some m.cls := findClass_of_methodNamed Bd.named
  have X0 : Stand p l e rKNm (s.setVm s.vm) m #[(.ref a1)] bl meth c s1 [] 0 0 := Stand.of_body Bd
  have e0 : s1.heap = h0 := by rw [← hh, Bd.state]; rfl
  have N0 := Fr.nil n0
  obtain ⟨EF, hEF⟩ : ∃ f, f = entryFrame m #[(.ref a1)] 5 := ⟨_, rfl⟩
  have pre0 : Go p e bl s1 (mkF m 0 #[rv a1, .unset, .unset, .unset, .unset] []) s1 EF := fun t k => by rw [hEF]; exact castTop (efNm m a1) k
  have hZ0 : Z.Warmed39 (s.setVm s.vm).vm := hZ
  have hown0 : (s.setVm s.vm).vm.findClass "com/example/picketline/picketline/protocol/Protocol" = some m.cls := hown
  have hS0 : s.Since s.vm s.heap.size := (State.WarmedH.refl s).since _
  have hk0 : s.heap.size ≤ h0.size := by rw [← hh]; exact Nat.le_refl _
  have pre1 : Go p e bl s1 (mkF m 1 #[rv a1, .unset, .unset, .unset, .unset] [(.ref a1)]) s1 EF := fun t k => pre0 t (by
   exact XS.aloadN X0.here hx rfl (B d15_0) rfl rfl k)
  obtain ⟨a2, T2, h2, k2, b2, kc2, X2, e2, Et2, hS2, hk2, hZ2, hown2, LE2, LC2, LF2, LV2, lt2, ltb2, A2, Lt2, sfe2, st2⟩ := ldcCH X0 hx hZ0 hown0 (hw _ (mW 38 rfl)) (own_wS hw) e0 hS0 hk0 (own_EW hw) (mg 0 rfl) hC (vs := [.int (119 : Int32), .int (111 : Int32), .int (114 : Int32), .int (100 : Int32)]) (z := (4 : Int32)) (by decide +kernel) (by decide) (by decide) (g := (mkF m 1 #[rv a1, .unset, .unset, .unset, .unset] [(.ref a1)])) rfl (B d15_1) (n := 16) (by decide) (by decide) (by decide) (by decide)
  have pre3 : Go p e bl T2 (mkF m 3 #[rv a1, .unset, .unset, .unset, .unset] [(.ref a2), (.ref a1)]) s1 EF := fun t k => pre1 t (st2 t k)
  have O4 : Old Z n0 h2 := O0.ext Et2
  have Z4 : n0 ≤ h2.size := Nat.le_trans Z0 Et2.1
  have K4 : Keep h0 h2 [] := (Keep.refl h0 []).ext Et2
  have R2 := (CHr.refl hC).trans A2
  obtain ⟨_, _, ⟨T5, L5, k5, n5⟩, -, X5, ⟨Lc5, hQ5, l5, y5, z5⟩, st5⟩ := Jvm.LawKit.callS X2 hx (y := mN7) hown2 (mvT hZ2 (hw _ (mW 41 rfl))) (mvT hZ2 (hw _ (mW 42 rfl))) (mvT hZ2 (hw _ (mW 43 rfl))) (mvT hZ2 (hw _ (mW 44 rfl))) (by decide) (backOf (W := 0) (rmN l Z a0 hw [] a1 a2 h2 n0 Z4) hZ2 (hw _ (mW 44 rfl)) (hw _ (mW 43 rfl)) (by decide) (by decide)) (g := (mkF m 3 #[rv a1, .unset, .unset, .unset, .unset] [(.ref a2), (.ref a1)])) rfl (hM rfl) (argsL := [(.ref a1), (.ref a2)]) (rest := []) (lenOf pd7 rfl) rfl (Nat.le_of_eq rfl) (B d15_3) (fun _ _ => ⟨rfl, e2, wl rfl, wl rfl⟩)
  dsimp only [Pt.U, Pt.locs, Pt.cells, Pt.slots] at X5 l5 y5 z5 st5 hQ5
  subst l5 y5 z5
  obtain ⟨rfl, N5q, hq5⟩ := hQ5
  have N5 := Fr.app N0 N5q
  have pre6 : Go p e bl T5 (mkF m 6 #[rv a1, .unset, .unset, .unset, .unset] [(.ref a1)]) s1 EF := fun t k => pre3 t (st5 t k)
  have e5 : T5.heap = h2 := hq5
  have pre7 : Go p e bl T5 (mkF m 7 #[rv a1, .unset, .unset, .unset, .unset] []) s1 EF := fun t k => pre6 t (by
   exact XS.pop X5.here hx rfl (B d15_6) rfl rfl k)
  obtain ⟨_, _, ⟨T8, L8, k8, n8⟩, -, X8, ⟨Lc8, hQ8, l8, y8, z8⟩, st8⟩ := Jvm.LawKit.callS X5 hx (y := mN14) hown2 (mvT hZ2 (hw _ (mW 45 rfl))) (mvT hZ2 (hw _ (mW 46 rfl))) (mvT hZ2 (hw _ (mW 36 rfl))) (mvT hZ2 (hw _ (mW 47 rfl))) (by decide) (backOf (W := 0) (rmVa l Z a0 hw []  cz fv va w0 w1 eo z0 z1 v0 v1 kv k0 k1 h2 n0 Z4 O4 J0 PP) hZ2 (hw _ (mW 47 rfl)) (hw _ (mW 36 rfl)) (by decide) (by decide)) (g := (mkF m 7 #[rv a1, .unset, .unset, .unset, .unset] [])) rfl (hM rfl) (argsL := []) (rest := []) (lenOf pd8 rfl) rfl (Nat.le_of_eq rfl) (B d15_7) (fun _ _ => ⟨rfl, e5, wl rfl, wl rfl⟩)
  dsimp only [Pt.U, Pt.locs, Pt.cells, Pt.slots] at X8 l8 y8 z8 st8 hQ8
  subst l8 y8 z8
  obtain ⟨vb, rfl, N8q, K8, VV8⟩ := hQ8
  have N8 := Fr.app N5 N8q
  have pre9 : Go p e bl T8 (mkF m 10 #[rv a1, .unset, .unset, .unset, .unset] [(.ref vb)]) s1 EF := fun t k => pre7 t (st8 t k)
  have O10 : Old Z n0 T8.heap := O4.keep K8 all0
  have Z10 : n0 ≤ T8.heap.size := Nat.le_trans Z4 K8.1
  have hk10 := Nat.le_trans hk2 K8.1
  have C10 := CHv.keep K8 sf0 A2.1
  have R10 := R2.trans (CHr.keep K8 sf0 A2.1)
  have K10 : Keep h0 T8.heap [] := K4.trans K8 all0
  have pre11 : Go p e bl T8 (mkF m 12 #[rv a1, rv vb, .unset, .unset, .unset] [(.ref vb)]) s1 EF := fun t k => pre9 t (by
   refine XS.astoreN X8.here hx rfl (B d15_10) rfl rfl (l' := #[rv a1, rv vb, .unset, .unset, .unset]) rfl ?_
   exact XS.aloadN X8.here hx rfl (B d15_11) rfl rfl k)
  obtain ⟨cl12, Ar12, q12, Sz12, M12, H12, G12⟩ := id VV8
  have pre13 : Go p e bl T8 (mkF m 18 #[rv a1, rv vb, iv 2, iv 0, .unset] [(.int 2), (.int 0)]) s1 EF := fun t k => pre11 t (by
   refine X8.arraylength hx Ar12.1 (State.isArrayOf_alike hZ2.alike Ar12.2.1) (g := (mkF m 12 #[rv a1, rv vb, .unset, .unset, .unset] [(.ref vb)])) rfl rfl (B d15_12) _ ?_
   rw [len_of Sz12 M12]
   refine XS.istoreN X8.here hx rfl (B d15_13) rfl (l' := #[rv a1, rv vb, iv 2, .unset, .unset]) rfl ?_
   refine XS.iconst X8.here hx rfl (B d15_14) ?_
   refine XS.istoreN X8.here hx rfl (B d15_15) rfl (l' := #[rv a1, rv vb, iv 2, iv 0, .unset]) rfl ?_
   refine XS.iloadN X8.here hx rfl (B d15_16) rfl ?_
   exact XS.iloadN X8.here hx rfl (B d15_17) rfl k)
  have pre14 : Go p e bl T8 (mkF m 21 #[rv a1, rv vb, iv 2, iv 0, .unset] []) s1 EF := fun t k => pre13 t (XS.icmpNo X8.here hx rfl (B d15_18) rfl (tlt (by decide : (0 : Int32) < (2 : Int32))).2.1 k)
  have pre15 : Go p e bl T8 (mkF m 23 #[rv a1, rv vb, iv 2, iv 0, .unset] [(.int 0), (.ref vb)]) s1 EF := fun t k => pre14 t (by
   refine XS.aloadN X8.here hx rfl (B d15_21) rfl rfl ?_
   exact XS.iloadN X8.here hx rfl (B d15_22) rfl k)
  obtain ⟨cl16, Ar16, q16, Sz16, M16, H16, G16⟩ := id VV8
  have hin16 := inb_of (j := (0 : Int32)) Sz16 ⟨by decide, by decide⟩
  have hat16 := Has.at (v := (.ref w0)) H16 hin16 rfl
  have pre17 : Go p e bl T8 (mkF m 28 #[rv a1, rv vb, iv 2, iv 0, rv w0] [(.ref w0)]) s1 EF := fun t k => pre15 t (by
   refine X8.aaload hx (j := 0) (v := (.ref w0)) Ar16.1 (State.isArrayOf_alike hZ2.alike Ar16.2.1) rfl Ar16.2.2 hin16 hat16 (g := (mkF m 23 #[rv a1, rv vb, iv 2, iv 0, .unset] [(.int 0), (.ref vb)])) rfl rfl (B d15_23) _ ?_
   refine XS.astore X8.here hx rfl (B d15_24) rfl rfl (l' := #[rv a1, rv vb, iv 2, iv 0, rv w0]) rfl ?_
   exact XS.aload X8.here hx rfl (B d15_26) rfl rfl k)
  obtain ⟨T18, X18, e18, st18⟩ := getF X8 hx hZ2 hown2 (host := "") (Or.inl (hw _ (mW 60 rfl))) Via.refl rfl (PP.2.2.2.2.2.2.2.2.2.2.1.ext O10.2) (g := (mkF m 28 #[rv a1, rv vb, iv 2, iv 0, rv w0] [(.ref w0)])) rfl rfl (B d15_28)
  have pre19 : Go p e bl T18 (mkF m 31 #[rv a1, rv vb, iv 2, iv 0, rv w0] [(.ref z0)]) s1 EF := fun t k => pre17 t (st18 t k)
  have pre20 : Go p e bl T18 (mkF m 32 #[rv a1, rv vb, iv 2, iv 0, rv w0] [(.ref a1), (.ref z0)]) s1 EF := fun t k => pre19 t (by
   exact XS.aloadN X18.here hx rfl (B d15_31) rfl rfl k)
  obtain ⟨cq21, kq21, q21a, q21b, q21c⟩ := isOf hZ2 e18 (PP.2.2.2.2.2.2.2.2.2.2.2.2.1.1.ext O10.2)
  obtain ⟨_, _, ⟨T21, L21, k21, n21⟩, -, X21, ⟨Lc21, hQ21, l21, y21, z21⟩, st21⟩ := X18.virtualBack hx (y := mN1) (z := mN1) hown2 (mvT hZ2 (hw _ (mW 62 rfl))) (mvT hZ2 (hw _ (mW 63 rfl))) (notFace_of_selects (args := #[]) (mvT hZ2 (hw _ (mW 65 rfl)))) (mvT hZ2 (hw _ (mW 65 rfl))) (mvT hZ2 (hw _ (mW 64 rfl))) (by decide) (backOf (W := 0) (rmQ l Z a0 hw [] z0 a1 cz fv v0 k0 9 C9 0 0 b k n bs 0 0 (eqB C9 bs) T8.heap n0 Z10 O10 J0 (PP.2.2.2.2.2.2.2.2.2.2.2.2.1.ext O10.2) ((SL.ext Et2).keep K8 nin0 nin0) rfl gn (fun _ => Or.inr rfl) rfl) hZ2 (hw _ (mW 66 rfl)) (hw _ (mW 7 rfl)) (by decide) (by decide)) q21a q21c (g := (mkF m 32 #[rv a1, rv vb, iv 2, iv 0, rv w0] [(.ref a1), (.ref z0)])) rfl (hM rfl) (Steps.refl _) (argsL := [(.ref a1)]) (rest := []) (lenOf pd9 rfl) rfl (Nat.le_of_eq rfl) (B d15_32) (fun _ _ => ⟨rfl, e18, wl rfl, wl rfl⟩)
  dsimp only [Pt.U, Pt.locs, Pt.cells, Pt.slots] at X21 l21 y21 z21 st21 hQ21
  subst l21 y21 z21
  obtain ⟨rfl, N21q, hq21⟩ := hQ21
  have N21 := Fr.app N8 N21q
  have pre22 : Go p e bl T21 (mkF m 35 #[rv a1, rv vb, iv 2, iv 0, rv w0] [(.int (eqB C9 bs))]) s1 EF := fun t k => pre20 t (st21.trans k)
  have e21 : T21.heap = T8.heap := hq21
  by_cases hc35 : (eqB C9 bs) = (0 : Int32)
  · have pre23 : Go p e bl T21 (mkF m 44 #[rv a1, rv vb, iv 2, iv 0, rv w0] []) s1 EF := fun t k => pre22 t (XS.ifYes X21.here hx rfl (pc0 := 35) (pc' := 44) rfl (B d15_35) rfl ((if0 _ _).trans (teq hc35).1) (by decide) (by decide) k)
    have pre24 : Go p e bl T21 (mkF m 18 #[rv a1, rv vb, iv 2, iv 1, rv w0] [(.int 2), (.int 1)]) s1 EF := fun t k => pre23 t (by
     refine XS.iinc X21.here hx rfl (B d15_44) rfl (l' := #[rv a1, rv vb, iv 2, iv 1, rv w0]) rfl ?_
     refine XS.goto X21.here hx rfl (pc0 := 47) (pc' := 16) rfl (B d15_47) (by decide) (by decide) ?_
     refine XS.iloadN X21.here hx rfl (B d15_16) rfl ?_
     exact XS.iloadN X21.here hx rfl (B d15_17) rfl k)
    have pre25 : Go p e bl T21 (mkF m 21 #[rv a1, rv vb, iv 2, iv 1, rv w0] []) s1 EF := fun t k => pre24 t (XS.icmpNo X21.here hx rfl (B d15_18) rfl (tlt (by decide : (1 : Int32) < (2 : Int32))).2.1 k)
    have pre26 : Go p e bl T21 (mkF m 23 #[rv a1, rv vb, iv 2, iv 1, rv w0] [(.int 1), (.ref vb)]) s1 EF := fun t k => pre25 t (by
     refine XS.aloadN X21.here hx rfl (B d15_21) rfl rfl ?_
     exact XS.iloadN X21.here hx rfl (B d15_22) rfl k)
    obtain ⟨cl27, Ar27, q27, Sz27, M27, H27, G27⟩ := id VV8
    have hin27 := inb_of (j := (1 : Int32)) Sz27 ⟨by decide, by decide⟩
    have hat27 := Has.at (v := (.ref w1)) H27 hin27 rfl
    have pre28 : Go p e bl T21 (mkF m 28 #[rv a1, rv vb, iv 2, iv 1, rv w1] [(.ref w1)]) s1 EF := fun t k => pre26 t (by
     refine X21.aaload hx (j := 1) (v := (.ref w1)) (hp e21 Ar27) (State.isArrayOf_alike hZ2.alike Ar27.2.1) rfl Ar27.2.2 hin27 hat27 (g := (mkF m 23 #[rv a1, rv vb, iv 2, iv 1, rv w0] [(.int 1), (.ref vb)])) rfl rfl (B d15_23) _ ?_
     refine XS.astore X21.here hx rfl (B d15_24) rfl rfl (l' := #[rv a1, rv vb, iv 2, iv 1, rv w1]) rfl ?_
     exact XS.aload X21.here hx rfl (B d15_26) rfl rfl k)
    obtain ⟨T29, X29, e29, st29⟩ := getF X21 hx hZ2 hown2 (host := "") (Or.inl (hw _ (mW 60 rfl))) Via.refl e21 (PP.2.2.2.2.2.2.2.2.2.2.2.1.ext O10.2) (g := (mkF m 28 #[rv a1, rv vb, iv 2, iv 1, rv w1] [(.ref w1)])) rfl rfl (B d15_28)
    have pre30 : Go p e bl T29 (mkF m 31 #[rv a1, rv vb, iv 2, iv 1, rv w1] [(.ref z1)]) s1 EF := fun t k => pre28 t (st29 t k)
    have pre31 : Go p e bl T29 (mkF m 32 #[rv a1, rv vb, iv 2, iv 1, rv w1] [(.ref a1), (.ref z1)]) s1 EF := fun t k => pre30 t (by
     exact XS.aloadN X29.here hx rfl (B d15_31) rfl rfl k)
    obtain ⟨cq32, kq32, q32a, q32b, q32c⟩ := isOf hZ2 e29 (PP.2.2.2.2.2.2.2.2.2.2.2.2.2.1.1.ext O10.2)
    obtain ⟨_, _, ⟨T32, L32, k32, n32⟩, -, X32, ⟨Lc32, hQ32, l32, y32, z32⟩, st32⟩ := X29.virtualBack hx (y := mN1) (z := mN1) hown2 (mvT hZ2 (hw _ (mW 62 rfl))) (mvT hZ2 (hw _ (mW 63 rfl))) (notFace_of_selects (args := #[]) (mvT hZ2 (hw _ (mW 65 rfl)))) (mvT hZ2 (hw _ (mW 65 rfl))) (mvT hZ2 (hw _ (mW 64 rfl))) (by decide) (backOf (W := 0) (rmQ l Z a0 hw [] z1 a1 cz fv v1 k1 7 C7 0 0 b k n bs 0 0 (eqB C7 bs) T8.heap n0 Z10 O10 J0 (PP.2.2.2.2.2.2.2.2.2.2.2.2.2.1.ext O10.2) ((SL.ext Et2).keep K8 nin0 nin0) rfl gn (fun _ => Or.inl rfl) rfl) hZ2 (hw _ (mW 66 rfl)) (hw _ (mW 7 rfl)) (by decide) (by decide)) q32a q32c (g := (mkF m 32 #[rv a1, rv vb, iv 2, iv 1, rv w1] [(.ref a1), (.ref z1)])) rfl (hM rfl) (Steps.refl _) (argsL := [(.ref a1)]) (rest := []) (lenOf pd9 rfl) rfl (Nat.le_of_eq rfl) (B d15_32) (fun _ _ => ⟨rfl, e29, wl rfl, wl rfl⟩)
    dsimp only [Pt.U, Pt.locs, Pt.cells, Pt.slots] at X32 l32 y32 z32 st32 hQ32
    subst l32 y32 z32
    obtain ⟨rfl, N32q, hq32⟩ := hQ32
    have N32 := Fr.app N21 N32q
    have pre33 : Go p e bl T32 (mkF m 35 #[rv a1, rv vb, iv 2, iv 1, rv w1] [(.int (eqB C7 bs))]) s1 EF := fun t k => pre31 t (st32.trans k)
    have e32 : T32.heap = T8.heap := hq32
    by_cases hc35' : (eqB C7 bs) = (0 : Int32)
    · have pre34 : Go p e bl T32 (mkF m 44 #[rv a1, rv vb, iv 2, iv 1, rv w1] []) s1 EF := fun t k => pre33 t (XS.ifYes X32.here hx rfl (pc0 := 35) (pc' := 44) rfl (B d15_35) rfl ((if0 _ _).trans (teq hc35').1) (by decide) (by decide) k)
      have pre35 : Go p e bl T32 (mkF m 18 #[rv a1, rv vb, iv 2, iv 2, rv w1] [(.int 2), (.int 2)]) s1 EF := fun t k => pre34 t (by
       refine XS.iinc X32.here hx rfl (B d15_44) rfl (l' := #[rv a1, rv vb, iv 2, iv 2, rv w1]) rfl ?_
       refine XS.goto X32.here hx rfl (pc0 := 47) (pc' := 16) rfl (B d15_47) (by decide) (by decide) ?_
       refine XS.iloadN X32.here hx rfl (B d15_16) rfl ?_
       exact XS.iloadN X32.here hx rfl (B d15_17) rfl k)
      have pre36 : Go p e bl T32 (mkF m 50 #[rv a1, rv vb, iv 2, iv 2, rv w1] []) s1 EF := fun t k => pre35 t (XS.icmpYes X32.here hx rfl (pc0 := 18) (pc' := 50) rfl (B d15_18) rfl (flt (by decide : ¬ ((2 : Int32) < (2 : Int32)))).2.1 (by decide) (by decide) k)
      obtain ⟨_, _, ⟨T37, L37, k37, n37⟩, -, X37, ⟨Lc37, hQ37, l37, y37, z37⟩, st37⟩ := Jvm.LawKit.callS X32 hx (y := mN13) hown2 (mvT hZ2 (hw _ (mW 104 rfl))) (mvT hZ2 (hw _ (mW 105 rfl))) (mvT hZ2 (hw _ (mW 74 rfl))) (mvT hZ2 (hw _ (mW 106 rfl))) (by decide) (backOf (W := 0) (rmOe l Z a0 hw []  cz fv va w0 w1 eo z0 z1 v0 v1 kv k0 k1 T8.heap n0 Z10 O10 J0 PP) hZ2 (hw _ (mW 106 rfl)) (hw _ (mW 74 rfl)) (by decide) (by decide)) (g := (mkF m 50 #[rv a1, rv vb, iv 2, iv 2, rv w1] [])) rfl (hM rfl) (argsL := []) (rest := []) (lenOf pd10 rfl) rfl (Nat.le_of_eq rfl) (B d15_50) (fun _ _ => ⟨rfl, e32, wl rfl, wl rfl⟩)
      dsimp only [Pt.U, Pt.locs, Pt.cells, Pt.slots] at X37 l37 y37 z37 st37 hQ37
      subst l37 y37 z37
      obtain ⟨rfl, N37q, hq37⟩ := hQ37
      have N37 := Fr.app N32 N37q
      have pre38 : Go p e bl T37 (mkF m 53 #[rv a1, rv vb, iv 2, iv 2, rv w1] [(.ref eo)]) s1 EF := fun t k => pre36 t (st37 t k)
      have e37 : T37.heap = T8.heap := hq37
      obtain ⟨fs, hr, hrun, hended, hend1, hend2, hend3, hsame⟩ := X37.leaveW hS2 (by rw [e37]; exact hk10) (v := some (.ref eo)) (fun h => by rw [Bd.returns] at h; cases h)
      have hCH : CHr Z [("com/example/picketline/picketline/protocol/Protocol", 37), ("com/example/picketline/picketline/protocol/ProtocolNamedPinLaw", 20), ("com/example/picketline/picketline/protocol/ProtocolNamedPinLaw", 42), ("java/lang/String", 7)] s.vm s.heap T37.vm T37.heap := by rw [hh, e37]; exact R10.trans (CHv.at X37 hZ2 (own_EW hw) C10)
      refine ⟨_, _, hEF ▸ pre38 _ (retOut X37 hx Bd.returns rfl (Or.inr (Or.inr (Or.inr (Or.inr ⟨rfl, rfl, rfl⟩)))) (B d15_53) hr), hrun, hended, _, _, rfl, ?_, hCH, hend1, hend2, hend3, hsame.mono (by decide) (by decide)⟩
      show QNm Z a1 cz fv va w0 w1 eo z0 z1 v0 v1 kv k0 k1 b k n bs h0 n0 _ T37.heap _
      rw [e37]
      exact Or.inr (Or.inr ⟨hc35, hc35', rfl, N37, K10⟩)
    have pre39 : Go p e bl T32 (mkF m 38 #[rv a1, rv vb, iv 2, iv 1, rv w1] []) s1 EF := fun t k => pre33 t (XS.ifNo X32.here hx rfl (B d15_35) rfl ((if0 _ _).trans (feq hc35').1) k)
    have pre40 : Go p e bl T32 (mkF m 40 #[rv a1, rv vb, iv 2, iv 1, rv w1] [(.ref w1)]) s1 EF := fun t k => pre39 t (by
     exact XS.aload X32.here hx rfl (B d15_38) rfl rfl k)
    obtain ⟨_, _, ⟨T41, L41, k41, n41⟩, -, X41, ⟨Lc41, hQ41, l41, y41, z41⟩, st41⟩ := Jvm.LawKit.callS X32 hx (y := mN10) hown2 (mvT hZ2 (hw _ (mW 72 rfl))) (mvT hZ2 (hw _ (mW 73 rfl))) (mvT hZ2 (hw _ (mW 74 rfl))) (mvT hZ2 (hw _ (mW 75 rfl))) (by decide) (backOf (W := 0) (rmOf l Z a0 hw [] w1 T8.heap n0 Z10) hZ2 (hw _ (mW 75 rfl)) (hw _ (mW 74 rfl)) (by decide) (by decide)) (g := (mkF m 40 #[rv a1, rv vb, iv 2, iv 1, rv w1] [(.ref w1)])) rfl (hM rfl) (argsL := [(.ref w1)]) (rest := []) (lenOf pd11 rfl) rfl (Nat.le_of_eq rfl) (B d15_40) (fun _ _ => ⟨rfl, e32, wl rfl, wl rfl⟩)
    dsimp only [Pt.U, Pt.locs, Pt.cells, Pt.slots] at X41 l41 y41 z41 st41 hQ41
    subst l41 y41 z41
    obtain ⟨ob, rfl, N41q, K41, EO41, FO41⟩ := hQ41
    have N41 := Fr.app N32 N41q
    have pre42 : Go p e bl T41 (mkF m 43 #[rv a1, rv vb, iv 2, iv 1, rv w1] [(.ref ob)]) s1 EF := fun t k => pre40 t (st41 t k)
    have O43 : Old Z n0 T41.heap := O10.keep K41 all0
    have Z43 : n0 ≤ T41.heap.size := Nat.le_trans Z10 K41.1
    have hk43 := Nat.le_trans hk10 K41.1
    have C43 := CHv.keep K41 sf0 C10
    have R43 := R10.trans (CHr.keep K41 sf0 C10)
    have K43 : Keep h0 T41.heap [] := K10.trans K41 all0
    obtain ⟨fs, hr, hrun, hended, hend1, hend2, hend3, hsame⟩ := X41.leaveW hS2 hk43 (v := some (.ref ob)) (fun h => by rw [Bd.returns] at h; cases h)
    have hCH : CHr Z [("com/example/picketline/picketline/protocol/Protocol", 37), ("com/example/picketline/picketline/protocol/ProtocolNamedPinLaw", 20), ("com/example/picketline/picketline/protocol/ProtocolNamedPinLaw", 42), ("java/lang/String", 7)] s.vm s.heap T41.vm T41.heap := by rw [hh]; exact R43.trans (CHv.at X41 hZ2 (own_EW hw) C43)
    refine ⟨_, _, hEF ▸ pre42 _ (retOut X41 hx Bd.returns rfl (Or.inr (Or.inr (Or.inr (Or.inr ⟨rfl, rfl, rfl⟩)))) (B d15_43) hr), hrun, hended, _, _, rfl, ?_, hCH, hend1, hend2, hend3, hsame.mono (by decide) (by decide)⟩
    show QNm Z a1 cz fv va w0 w1 eo z0 z1 v0 v1 kv k0 k1 b k n bs h0 n0 _ T41.heap _
    exact Or.inr (Or.inl ⟨hc35, (own_eqB _ _).resolve_left hc35', _, rfl, N41, K43, EO41, FO41⟩)
  have pre44 : Go p e bl T21 (mkF m 38 #[rv a1, rv vb, iv 2, iv 0, rv w0] []) s1 EF := fun t k => pre22 t (XS.ifNo X21.here hx rfl (B d15_35) rfl ((if0 _ _).trans (feq hc35).1) k)
  have pre45 : Go p e bl T21 (mkF m 40 #[rv a1, rv vb, iv 2, iv 0, rv w0] [(.ref w0)]) s1 EF := fun t k => pre44 t (by
   exact XS.aload X21.here hx rfl (B d15_38) rfl rfl k)
  obtain ⟨_, _, ⟨T46, L46, k46, n46⟩, -, X46, ⟨Lc46, hQ46, l46, y46, z46⟩, st46⟩ := Jvm.LawKit.callS X21 hx (y := mN10) hown2 (mvT hZ2 (hw _ (mW 72 rfl))) (mvT hZ2 (hw _ (mW 73 rfl))) (mvT hZ2 (hw _ (mW 74 rfl))) (mvT hZ2 (hw _ (mW 75 rfl))) (by decide) (backOf (W := 0) (rmOf l Z a0 hw [] w0 T8.heap n0 Z10) hZ2 (hw _ (mW 75 rfl)) (hw _ (mW 74 rfl)) (by decide) (by decide)) (g := (mkF m 40 #[rv a1, rv vb, iv 2, iv 0, rv w0] [(.ref w0)])) rfl (hM rfl) (argsL := [(.ref w0)]) (rest := []) (lenOf pd11 rfl) rfl (Nat.le_of_eq rfl) (B d15_40) (fun _ _ => ⟨rfl, e21, wl rfl, wl rfl⟩)
  dsimp only [Pt.U, Pt.locs, Pt.cells, Pt.slots] at X46 l46 y46 z46 st46 hQ46
  subst l46 y46 z46
  obtain ⟨ob, rfl, N46q, K46, EO46, FO46⟩ := hQ46
  have N46 := Fr.app N21 N46q
  have pre47 : Go p e bl T46 (mkF m 43 #[rv a1, rv vb, iv 2, iv 0, rv w0] [(.ref ob)]) s1 EF := fun t k => pre45 t (st46 t k)
  have O48 : Old Z n0 T46.heap := O10.keep K46 all0
  have Z48 : n0 ≤ T46.heap.size := Nat.le_trans Z10 K46.1
  have hk48 := Nat.le_trans hk10 K46.1
  have C48 := CHv.keep K46 sf0 C10
  have R48 := R10.trans (CHr.keep K46 sf0 C10)
  have K48 : Keep h0 T46.heap [] := K10.trans K46 all0
  obtain ⟨fs, hr, hrun, hended, hend1, hend2, hend3, hsame⟩ := X46.leaveW hS2 hk48 (v := some (.ref ob)) (fun h => by rw [Bd.returns] at h; cases h)
  have hCH : CHr Z [("com/example/picketline/picketline/protocol/Protocol", 37), ("com/example/picketline/picketline/protocol/ProtocolNamedPinLaw", 20), ("com/example/picketline/picketline/protocol/ProtocolNamedPinLaw", 42), ("java/lang/String", 7)] s.vm s.heap T46.vm T46.heap := by rw [hh]; exact R48.trans (CHv.at X46 hZ2 (own_EW hw) C48)
  refine ⟨_, _, hEF ▸ pre47 _ (retOut X46 hx Bd.returns rfl (Or.inr (Or.inr (Or.inr (Or.inr ⟨rfl, rfl, rfl⟩)))) (B d15_43) hr), hrun, hended, _, _, rfl, ?_, hCH, hend1, hend2, hend3, hsame.mono (by decide) (by decide)⟩
  show QNm Z a1 cz fv va w0 w1 eo z0 z1 v0 v1 kv k0 k1 b k n bs h0 n0 _ T46.heap _
  exact Or.inl ⟨(own_eqB _ _).resolve_left hc35, _, rfl, N46, K48, EO46, FO46⟩
abbrev rKPx : Room := { frames := 4, cells := 6, slots := 24, locals := 66 }
theorem d16_0 : decode method_3_code 0 = .ok (.iload_n 1, 1) := by decide +kernel
theorem d16_1 : decode method_3_code 1 = .ok (.ifCond .gt 14, 3) := by decide +kernel
theorem d16_4 : decode method_3_code 4 = .ok (.new 23, 3) := by decide +kernel
theorem d16_7 : decode method_3_code 7 = .ok (.dup, 1) := by decide +kernel
theorem d16_8 : decode method_3_code 8 = .ok (.iconst 0, 1) := by decide +kernel
theorem d16_9 : decode method_3_code 9 = .ok (.newarray .char, 2) := by decide +kernel
theorem d16_11 : decode method_3_code 11 = .ok (.invokespecial 47, 3) := by decide +kernel
theorem d16_14 : decode method_3_code 14 = .ok (.areturn, 1) := by decide +kernel
theorem d16_15 : decode method_3_code 15 = .ok (.iload_n 1, 1) := by decide +kernel
theorem d16_16 : decode method_3_code 16 = .ok (.iconst 1, 1) := by decide +kernel
theorem d16_17 : decode method_3_code 17 = .ok (.if_icmp .ne 20, 3) := by decide +kernel
theorem d16_20 : decode method_3_code 20 = .ok (.new 23, 3) := by decide +kernel
theorem d16_23 : decode method_3_code 23 = .ok (.dup, 1) := by decide +kernel
theorem d16_24 : decode method_3_code 24 = .ok (.iconst 1, 1) := by decide +kernel
theorem d16_25 : decode method_3_code 25 = .ok (.newarray .char, 2) := by decide +kernel
theorem d16_27 : decode method_3_code 27 = .ok (.dup, 1) := by decide +kernel
theorem d16_28 : decode method_3_code 28 = .ok (.iconst 0, 1) := by decide +kernel
theorem d16_29 : decode method_3_code 29 = .ok (.aload_n 0, 1) := by decide +kernel
theorem d16_30 : decode method_3_code 30 = .ok (.iconst 0, 1) := by decide +kernel
theorem d16_31 : decode method_3_code 31 = .ok (.caload, 1) := by decide +kernel
theorem d16_32 : decode method_3_code 32 = .ok (.castore, 1) := by decide +kernel
theorem d16_33 : decode method_3_code 33 = .ok (.invokespecial 47, 3) := by decide +kernel
theorem d16_36 : decode method_3_code 36 = .ok (.areturn, 1) := by decide +kernel
theorem d16_37 : decode method_3_code 37 = .ok (.iload_n 1, 1) := by decide +kernel
theorem d16_38 : decode method_3_code 38 = .ok (.iconst 2, 1) := by decide +kernel
theorem d16_39 : decode method_3_code 39 = .ok (.if_icmp .ne 26, 3) := by decide +kernel
theorem d16_42 : decode method_3_code 42 = .ok (.new 23, 3) := by decide +kernel
theorem d16_45 : decode method_3_code 45 = .ok (.dup, 1) := by decide +kernel
theorem d16_46 : decode method_3_code 46 = .ok (.iconst 2, 1) := by decide +kernel
theorem d16_47 : decode method_3_code 47 = .ok (.newarray .char, 2) := by decide +kernel
theorem d16_49 : decode method_3_code 49 = .ok (.dup, 1) := by decide +kernel
theorem d16_50 : decode method_3_code 50 = .ok (.iconst 0, 1) := by decide +kernel
theorem d16_51 : decode method_3_code 51 = .ok (.aload_n 0, 1) := by decide +kernel
theorem d16_52 : decode method_3_code 52 = .ok (.iconst 0, 1) := by decide +kernel
theorem d16_53 : decode method_3_code 53 = .ok (.caload, 1) := by decide +kernel
theorem d16_54 : decode method_3_code 54 = .ok (.castore, 1) := by decide +kernel
theorem d16_55 : decode method_3_code 55 = .ok (.dup, 1) := by decide +kernel
theorem d16_56 : decode method_3_code 56 = .ok (.iconst 1, 1) := by decide +kernel
theorem d16_57 : decode method_3_code 57 = .ok (.aload_n 0, 1) := by decide +kernel
theorem d16_58 : decode method_3_code 58 = .ok (.iconst 1, 1) := by decide +kernel
theorem d16_59 : decode method_3_code 59 = .ok (.caload, 1) := by decide +kernel
theorem d16_60 : decode method_3_code 60 = .ok (.castore, 1) := by decide +kernel
theorem d16_61 : decode method_3_code 61 = .ok (.invokespecial 47, 3) := by decide +kernel
theorem d16_64 : decode method_3_code 64 = .ok (.areturn, 1) := by decide +kernel
theorem d16_65 : decode method_3_code 65 = .ok (.iload_n 1, 1) := by decide +kernel
theorem d16_66 : decode method_3_code 66 = .ok (.iconst 3, 1) := by decide +kernel
theorem d16_67 : decode method_3_code 67 = .ok (.if_icmp .ne 32, 3) := by decide +kernel
theorem d16_70 : decode method_3_code 70 = .ok (.new 23, 3) := by decide +kernel
theorem d16_73 : decode method_3_code 73 = .ok (.dup, 1) := by decide +kernel
theorem d16_74 : decode method_3_code 74 = .ok (.iconst 3, 1) := by decide +kernel
theorem d16_75 : decode method_3_code 75 = .ok (.newarray .char, 2) := by decide +kernel
theorem d16_77 : decode method_3_code 77 = .ok (.dup, 1) := by decide +kernel
theorem d16_78 : decode method_3_code 78 = .ok (.iconst 0, 1) := by decide +kernel
theorem d16_79 : decode method_3_code 79 = .ok (.aload_n 0, 1) := by decide +kernel
theorem d16_80 : decode method_3_code 80 = .ok (.iconst 0, 1) := by decide +kernel
theorem d16_81 : decode method_3_code 81 = .ok (.caload, 1) := by decide +kernel
theorem d16_82 : decode method_3_code 82 = .ok (.castore, 1) := by decide +kernel
theorem d16_83 : decode method_3_code 83 = .ok (.dup, 1) := by decide +kernel
theorem d16_84 : decode method_3_code 84 = .ok (.iconst 1, 1) := by decide +kernel
theorem d16_85 : decode method_3_code 85 = .ok (.aload_n 0, 1) := by decide +kernel
theorem d16_86 : decode method_3_code 86 = .ok (.iconst 1, 1) := by decide +kernel
theorem d16_87 : decode method_3_code 87 = .ok (.caload, 1) := by decide +kernel
theorem d16_88 : decode method_3_code 88 = .ok (.castore, 1) := by decide +kernel
theorem d16_89 : decode method_3_code 89 = .ok (.dup, 1) := by decide +kernel
theorem d16_90 : decode method_3_code 90 = .ok (.iconst 2, 1) := by decide +kernel
theorem d16_91 : decode method_3_code 91 = .ok (.aload_n 0, 1) := by decide +kernel
theorem d16_92 : decode method_3_code 92 = .ok (.iconst 2, 1) := by decide +kernel
theorem d16_93 : decode method_3_code 93 = .ok (.caload, 1) := by decide +kernel
theorem d16_94 : decode method_3_code 94 = .ok (.castore, 1) := by decide +kernel
theorem d16_95 : decode method_3_code 95 = .ok (.invokespecial 47, 3) := by decide +kernel
theorem d16_98 : decode method_3_code 98 = .ok (.areturn, 1) := by decide +kernel
theorem d16_99 : decode method_3_code 99 = .ok (.iload_n 1, 1) := by decide +kernel
theorem d16_100 : decode method_3_code 100 = .ok (.iconst 4, 1) := by decide +kernel
theorem d16_101 : decode method_3_code 101 = .ok (.if_icmp .ne 38, 3) := by decide +kernel
theorem d16_104 : decode method_3_code 104 = .ok (.new 23, 3) := by decide +kernel
theorem d16_107 : decode method_3_code 107 = .ok (.dup, 1) := by decide +kernel
theorem d16_108 : decode method_3_code 108 = .ok (.iconst 4, 1) := by decide +kernel
theorem d16_109 : decode method_3_code 109 = .ok (.newarray .char, 2) := by decide +kernel
theorem d16_111 : decode method_3_code 111 = .ok (.dup, 1) := by decide +kernel
theorem d16_112 : decode method_3_code 112 = .ok (.iconst 0, 1) := by decide +kernel
theorem d16_113 : decode method_3_code 113 = .ok (.aload_n 0, 1) := by decide +kernel
theorem d16_114 : decode method_3_code 114 = .ok (.iconst 0, 1) := by decide +kernel
theorem d16_115 : decode method_3_code 115 = .ok (.caload, 1) := by decide +kernel
theorem d16_116 : decode method_3_code 116 = .ok (.castore, 1) := by decide +kernel
theorem d16_117 : decode method_3_code 117 = .ok (.dup, 1) := by decide +kernel
theorem d16_118 : decode method_3_code 118 = .ok (.iconst 1, 1) := by decide +kernel
theorem d16_119 : decode method_3_code 119 = .ok (.aload_n 0, 1) := by decide +kernel
theorem d16_120 : decode method_3_code 120 = .ok (.iconst 1, 1) := by decide +kernel
theorem d16_121 : decode method_3_code 121 = .ok (.caload, 1) := by decide +kernel
theorem d16_122 : decode method_3_code 122 = .ok (.castore, 1) := by decide +kernel
theorem d16_123 : decode method_3_code 123 = .ok (.dup, 1) := by decide +kernel
theorem d16_124 : decode method_3_code 124 = .ok (.iconst 2, 1) := by decide +kernel
theorem d16_125 : decode method_3_code 125 = .ok (.aload_n 0, 1) := by decide +kernel
theorem d16_126 : decode method_3_code 126 = .ok (.iconst 2, 1) := by decide +kernel
theorem d16_127 : decode method_3_code 127 = .ok (.caload, 1) := by decide +kernel
theorem d16_128 : decode method_3_code 128 = .ok (.castore, 1) := by decide +kernel
theorem d16_129 : decode method_3_code 129 = .ok (.dup, 1) := by decide +kernel
theorem d16_130 : decode method_3_code 130 = .ok (.iconst 3, 1) := by decide +kernel
theorem d16_131 : decode method_3_code 131 = .ok (.aload_n 0, 1) := by decide +kernel
theorem d16_132 : decode method_3_code 132 = .ok (.iconst 3, 1) := by decide +kernel
theorem d16_133 : decode method_3_code 133 = .ok (.caload, 1) := by decide +kernel
theorem d16_134 : decode method_3_code 134 = .ok (.castore, 1) := by decide +kernel
theorem d16_135 : decode method_3_code 135 = .ok (.invokespecial 47, 3) := by decide +kernel
theorem d16_138 : decode method_3_code 138 = .ok (.areturn, 1) := by decide +kernel
theorem d16_139 : decode method_3_code 139 = .ok (.iload_n 1, 1) := by decide +kernel
theorem d16_140 : decode method_3_code 140 = .ok (.iconst 5, 1) := by decide +kernel
theorem d16_141 : decode method_3_code 141 = .ok (.if_icmp .ne 44, 3) := by decide +kernel
theorem d16_144 : decode method_3_code 144 = .ok (.new 23, 3) := by decide +kernel
theorem d16_147 : decode method_3_code 147 = .ok (.dup, 1) := by decide +kernel
theorem d16_148 : decode method_3_code 148 = .ok (.iconst 5, 1) := by decide +kernel
theorem d16_149 : decode method_3_code 149 = .ok (.newarray .char, 2) := by decide +kernel
theorem d16_151 : decode method_3_code 151 = .ok (.dup, 1) := by decide +kernel
theorem d16_152 : decode method_3_code 152 = .ok (.iconst 0, 1) := by decide +kernel
theorem d16_153 : decode method_3_code 153 = .ok (.aload_n 0, 1) := by decide +kernel
theorem d16_154 : decode method_3_code 154 = .ok (.iconst 0, 1) := by decide +kernel
theorem d16_155 : decode method_3_code 155 = .ok (.caload, 1) := by decide +kernel
theorem d16_156 : decode method_3_code 156 = .ok (.castore, 1) := by decide +kernel
theorem d16_157 : decode method_3_code 157 = .ok (.dup, 1) := by decide +kernel
theorem d16_158 : decode method_3_code 158 = .ok (.iconst 1, 1) := by decide +kernel
theorem d16_159 : decode method_3_code 159 = .ok (.aload_n 0, 1) := by decide +kernel
theorem d16_160 : decode method_3_code 160 = .ok (.iconst 1, 1) := by decide +kernel
theorem d16_161 : decode method_3_code 161 = .ok (.caload, 1) := by decide +kernel
theorem d16_162 : decode method_3_code 162 = .ok (.castore, 1) := by decide +kernel
theorem d16_163 : decode method_3_code 163 = .ok (.dup, 1) := by decide +kernel
theorem d16_164 : decode method_3_code 164 = .ok (.iconst 2, 1) := by decide +kernel
theorem d16_165 : decode method_3_code 165 = .ok (.aload_n 0, 1) := by decide +kernel
theorem d16_166 : decode method_3_code 166 = .ok (.iconst 2, 1) := by decide +kernel
theorem d16_167 : decode method_3_code 167 = .ok (.caload, 1) := by decide +kernel
theorem d16_168 : decode method_3_code 168 = .ok (.castore, 1) := by decide +kernel
theorem d16_169 : decode method_3_code 169 = .ok (.dup, 1) := by decide +kernel
theorem d16_170 : decode method_3_code 170 = .ok (.iconst 3, 1) := by decide +kernel
theorem d16_171 : decode method_3_code 171 = .ok (.aload_n 0, 1) := by decide +kernel
theorem d16_172 : decode method_3_code 172 = .ok (.iconst 3, 1) := by decide +kernel
theorem d16_173 : decode method_3_code 173 = .ok (.caload, 1) := by decide +kernel
theorem d16_174 : decode method_3_code 174 = .ok (.castore, 1) := by decide +kernel
theorem d16_175 : decode method_3_code 175 = .ok (.dup, 1) := by decide +kernel
theorem d16_176 : decode method_3_code 176 = .ok (.iconst 4, 1) := by decide +kernel
theorem d16_177 : decode method_3_code 177 = .ok (.aload_n 0, 1) := by decide +kernel
theorem d16_178 : decode method_3_code 178 = .ok (.iconst 4, 1) := by decide +kernel
theorem d16_179 : decode method_3_code 179 = .ok (.caload, 1) := by decide +kernel
theorem d16_180 : decode method_3_code 180 = .ok (.castore, 1) := by decide +kernel
theorem d16_181 : decode method_3_code 181 = .ok (.invokespecial 47, 3) := by decide +kernel
theorem d16_184 : decode method_3_code 184 = .ok (.areturn, 1) := by decide +kernel
theorem d16_185 : decode method_3_code 185 = .ok (.iload_n 1, 1) := by decide +kernel
theorem d16_186 : decode method_3_code 186 = .ok (.bipush 6, 2) := by decide +kernel
theorem d16_188 : decode method_3_code 188 = .ok (.if_icmp .ne 51, 3) := by decide +kernel
theorem d16_191 : decode method_3_code 191 = .ok (.new 23, 3) := by decide +kernel
theorem d16_194 : decode method_3_code 194 = .ok (.dup, 1) := by decide +kernel
theorem d16_195 : decode method_3_code 195 = .ok (.bipush 6, 2) := by decide +kernel
theorem d16_197 : decode method_3_code 197 = .ok (.newarray .char, 2) := by decide +kernel
theorem d16_199 : decode method_3_code 199 = .ok (.dup, 1) := by decide +kernel
theorem d16_200 : decode method_3_code 200 = .ok (.iconst 0, 1) := by decide +kernel
theorem d16_201 : decode method_3_code 201 = .ok (.aload_n 0, 1) := by decide +kernel
theorem d16_202 : decode method_3_code 202 = .ok (.iconst 0, 1) := by decide +kernel
theorem d16_203 : decode method_3_code 203 = .ok (.caload, 1) := by decide +kernel
theorem d16_204 : decode method_3_code 204 = .ok (.castore, 1) := by decide +kernel
theorem d16_205 : decode method_3_code 205 = .ok (.dup, 1) := by decide +kernel
theorem d16_206 : decode method_3_code 206 = .ok (.iconst 1, 1) := by decide +kernel
theorem d16_207 : decode method_3_code 207 = .ok (.aload_n 0, 1) := by decide +kernel
theorem d16_208 : decode method_3_code 208 = .ok (.iconst 1, 1) := by decide +kernel
theorem d16_209 : decode method_3_code 209 = .ok (.caload, 1) := by decide +kernel
theorem d16_210 : decode method_3_code 210 = .ok (.castore, 1) := by decide +kernel
theorem d16_211 : decode method_3_code 211 = .ok (.dup, 1) := by decide +kernel
theorem d16_212 : decode method_3_code 212 = .ok (.iconst 2, 1) := by decide +kernel
theorem d16_213 : decode method_3_code 213 = .ok (.aload_n 0, 1) := by decide +kernel
theorem d16_214 : decode method_3_code 214 = .ok (.iconst 2, 1) := by decide +kernel
theorem d16_215 : decode method_3_code 215 = .ok (.caload, 1) := by decide +kernel
theorem d16_216 : decode method_3_code 216 = .ok (.castore, 1) := by decide +kernel
theorem d16_217 : decode method_3_code 217 = .ok (.dup, 1) := by decide +kernel
theorem d16_218 : decode method_3_code 218 = .ok (.iconst 3, 1) := by decide +kernel
theorem d16_219 : decode method_3_code 219 = .ok (.aload_n 0, 1) := by decide +kernel
theorem d16_220 : decode method_3_code 220 = .ok (.iconst 3, 1) := by decide +kernel
theorem d16_221 : decode method_3_code 221 = .ok (.caload, 1) := by decide +kernel
theorem d16_222 : decode method_3_code 222 = .ok (.castore, 1) := by decide +kernel
theorem d16_223 : decode method_3_code 223 = .ok (.dup, 1) := by decide +kernel
theorem d16_224 : decode method_3_code 224 = .ok (.iconst 4, 1) := by decide +kernel
theorem d16_225 : decode method_3_code 225 = .ok (.aload_n 0, 1) := by decide +kernel
theorem d16_226 : decode method_3_code 226 = .ok (.iconst 4, 1) := by decide +kernel
theorem d16_227 : decode method_3_code 227 = .ok (.caload, 1) := by decide +kernel
theorem d16_228 : decode method_3_code 228 = .ok (.castore, 1) := by decide +kernel
theorem d16_229 : decode method_3_code 229 = .ok (.dup, 1) := by decide +kernel
theorem d16_230 : decode method_3_code 230 = .ok (.iconst 5, 1) := by decide +kernel
theorem d16_231 : decode method_3_code 231 = .ok (.aload_n 0, 1) := by decide +kernel
theorem d16_232 : decode method_3_code 232 = .ok (.iconst 5, 1) := by decide +kernel
theorem d16_233 : decode method_3_code 233 = .ok (.caload, 1) := by decide +kernel
theorem d16_234 : decode method_3_code 234 = .ok (.castore, 1) := by decide +kernel
theorem d16_235 : decode method_3_code 235 = .ok (.invokespecial 47, 3) := by decide +kernel
theorem d16_238 : decode method_3_code 238 = .ok (.areturn, 1) := by decide +kernel
theorem d16_239 : decode method_3_code 239 = .ok (.iload_n 1, 1) := by decide +kernel
theorem d16_240 : decode method_3_code 240 = .ok (.bipush 7, 2) := by decide +kernel
theorem d16_242 : decode method_3_code 242 = .ok (.if_icmp .ne 59, 3) := by decide +kernel
theorem d16_245 : decode method_3_code 245 = .ok (.new 23, 3) := by decide +kernel
theorem d16_248 : decode method_3_code 248 = .ok (.dup, 1) := by decide +kernel
theorem d16_249 : decode method_3_code 249 = .ok (.bipush 7, 2) := by decide +kernel
theorem d16_251 : decode method_3_code 251 = .ok (.newarray .char, 2) := by decide +kernel
theorem d16_253 : decode method_3_code 253 = .ok (.dup, 1) := by decide +kernel
theorem d16_254 : decode method_3_code 254 = .ok (.iconst 0, 1) := by decide +kernel
theorem d16_255 : decode method_3_code 255 = .ok (.aload_n 0, 1) := by decide +kernel
theorem d16_256 : decode method_3_code 256 = .ok (.iconst 0, 1) := by decide +kernel
theorem d16_257 : decode method_3_code 257 = .ok (.caload, 1) := by decide +kernel
theorem d16_258 : decode method_3_code 258 = .ok (.castore, 1) := by decide +kernel
theorem d16_259 : decode method_3_code 259 = .ok (.dup, 1) := by decide +kernel
theorem d16_260 : decode method_3_code 260 = .ok (.iconst 1, 1) := by decide +kernel
theorem d16_261 : decode method_3_code 261 = .ok (.aload_n 0, 1) := by decide +kernel
theorem d16_262 : decode method_3_code 262 = .ok (.iconst 1, 1) := by decide +kernel
theorem d16_263 : decode method_3_code 263 = .ok (.caload, 1) := by decide +kernel
theorem d16_264 : decode method_3_code 264 = .ok (.castore, 1) := by decide +kernel
theorem d16_265 : decode method_3_code 265 = .ok (.dup, 1) := by decide +kernel
theorem d16_266 : decode method_3_code 266 = .ok (.iconst 2, 1) := by decide +kernel
theorem d16_267 : decode method_3_code 267 = .ok (.aload_n 0, 1) := by decide +kernel
theorem d16_268 : decode method_3_code 268 = .ok (.iconst 2, 1) := by decide +kernel
theorem d16_269 : decode method_3_code 269 = .ok (.caload, 1) := by decide +kernel
theorem d16_270 : decode method_3_code 270 = .ok (.castore, 1) := by decide +kernel
theorem d16_271 : decode method_3_code 271 = .ok (.dup, 1) := by decide +kernel
theorem d16_272 : decode method_3_code 272 = .ok (.iconst 3, 1) := by decide +kernel
theorem d16_273 : decode method_3_code 273 = .ok (.aload_n 0, 1) := by decide +kernel
theorem d16_274 : decode method_3_code 274 = .ok (.iconst 3, 1) := by decide +kernel
theorem d16_275 : decode method_3_code 275 = .ok (.caload, 1) := by decide +kernel
theorem d16_276 : decode method_3_code 276 = .ok (.castore, 1) := by decide +kernel
theorem d16_277 : decode method_3_code 277 = .ok (.dup, 1) := by decide +kernel
theorem d16_278 : decode method_3_code 278 = .ok (.iconst 4, 1) := by decide +kernel
theorem d16_279 : decode method_3_code 279 = .ok (.aload_n 0, 1) := by decide +kernel
theorem d16_280 : decode method_3_code 280 = .ok (.iconst 4, 1) := by decide +kernel
theorem d16_281 : decode method_3_code 281 = .ok (.caload, 1) := by decide +kernel
theorem d16_282 : decode method_3_code 282 = .ok (.castore, 1) := by decide +kernel
theorem d16_283 : decode method_3_code 283 = .ok (.dup, 1) := by decide +kernel
theorem d16_284 : decode method_3_code 284 = .ok (.iconst 5, 1) := by decide +kernel
theorem d16_285 : decode method_3_code 285 = .ok (.aload_n 0, 1) := by decide +kernel
theorem d16_286 : decode method_3_code 286 = .ok (.iconst 5, 1) := by decide +kernel
theorem d16_287 : decode method_3_code 287 = .ok (.caload, 1) := by decide +kernel
theorem d16_288 : decode method_3_code 288 = .ok (.castore, 1) := by decide +kernel
theorem d16_289 : decode method_3_code 289 = .ok (.dup, 1) := by decide +kernel
theorem d16_290 : decode method_3_code 290 = .ok (.bipush 6, 2) := by decide +kernel
theorem d16_292 : decode method_3_code 292 = .ok (.aload_n 0, 1) := by decide +kernel
theorem d16_293 : decode method_3_code 293 = .ok (.bipush 6, 2) := by decide +kernel
theorem d16_295 : decode method_3_code 295 = .ok (.caload, 1) := by decide +kernel
theorem d16_296 : decode method_3_code 296 = .ok (.castore, 1) := by decide +kernel
theorem d16_297 : decode method_3_code 297 = .ok (.invokespecial 47, 3) := by decide +kernel
theorem d16_300 : decode method_3_code 300 = .ok (.areturn, 1) := by decide +kernel
theorem d16_301 : decode method_3_code 301 = .ok (.iload_n 1, 1) := by decide +kernel
theorem d16_302 : decode method_3_code 302 = .ok (.bipush 8, 2) := by decide +kernel
theorem d16_304 : decode method_3_code 304 = .ok (.if_icmp .ne 67, 3) := by decide +kernel
theorem d16_307 : decode method_3_code 307 = .ok (.new 23, 3) := by decide +kernel
theorem d16_310 : decode method_3_code 310 = .ok (.dup, 1) := by decide +kernel
theorem d16_311 : decode method_3_code 311 = .ok (.bipush 8, 2) := by decide +kernel
theorem d16_313 : decode method_3_code 313 = .ok (.newarray .char, 2) := by decide +kernel
theorem d16_315 : decode method_3_code 315 = .ok (.dup, 1) := by decide +kernel
theorem d16_316 : decode method_3_code 316 = .ok (.iconst 0, 1) := by decide +kernel
theorem d16_317 : decode method_3_code 317 = .ok (.aload_n 0, 1) := by decide +kernel
theorem d16_318 : decode method_3_code 318 = .ok (.iconst 0, 1) := by decide +kernel
theorem d16_319 : decode method_3_code 319 = .ok (.caload, 1) := by decide +kernel
theorem d16_320 : decode method_3_code 320 = .ok (.castore, 1) := by decide +kernel
theorem d16_321 : decode method_3_code 321 = .ok (.dup, 1) := by decide +kernel
theorem d16_322 : decode method_3_code 322 = .ok (.iconst 1, 1) := by decide +kernel
theorem d16_323 : decode method_3_code 323 = .ok (.aload_n 0, 1) := by decide +kernel
theorem d16_324 : decode method_3_code 324 = .ok (.iconst 1, 1) := by decide +kernel
theorem d16_325 : decode method_3_code 325 = .ok (.caload, 1) := by decide +kernel
theorem d16_326 : decode method_3_code 326 = .ok (.castore, 1) := by decide +kernel
theorem d16_327 : decode method_3_code 327 = .ok (.dup, 1) := by decide +kernel
theorem d16_328 : decode method_3_code 328 = .ok (.iconst 2, 1) := by decide +kernel
theorem d16_329 : decode method_3_code 329 = .ok (.aload_n 0, 1) := by decide +kernel
theorem d16_330 : decode method_3_code 330 = .ok (.iconst 2, 1) := by decide +kernel
theorem d16_331 : decode method_3_code 331 = .ok (.caload, 1) := by decide +kernel
theorem d16_332 : decode method_3_code 332 = .ok (.castore, 1) := by decide +kernel
theorem d16_333 : decode method_3_code 333 = .ok (.dup, 1) := by decide +kernel
theorem d16_334 : decode method_3_code 334 = .ok (.iconst 3, 1) := by decide +kernel
theorem d16_335 : decode method_3_code 335 = .ok (.aload_n 0, 1) := by decide +kernel
theorem d16_336 : decode method_3_code 336 = .ok (.iconst 3, 1) := by decide +kernel
theorem d16_337 : decode method_3_code 337 = .ok (.caload, 1) := by decide +kernel
theorem d16_338 : decode method_3_code 338 = .ok (.castore, 1) := by decide +kernel
theorem d16_339 : decode method_3_code 339 = .ok (.dup, 1) := by decide +kernel
theorem d16_340 : decode method_3_code 340 = .ok (.iconst 4, 1) := by decide +kernel
theorem d16_341 : decode method_3_code 341 = .ok (.aload_n 0, 1) := by decide +kernel
theorem d16_342 : decode method_3_code 342 = .ok (.iconst 4, 1) := by decide +kernel
theorem d16_343 : decode method_3_code 343 = .ok (.caload, 1) := by decide +kernel
theorem d16_344 : decode method_3_code 344 = .ok (.castore, 1) := by decide +kernel
theorem d16_345 : decode method_3_code 345 = .ok (.dup, 1) := by decide +kernel
theorem d16_346 : decode method_3_code 346 = .ok (.iconst 5, 1) := by decide +kernel
theorem d16_347 : decode method_3_code 347 = .ok (.aload_n 0, 1) := by decide +kernel
theorem d16_348 : decode method_3_code 348 = .ok (.iconst 5, 1) := by decide +kernel
theorem d16_349 : decode method_3_code 349 = .ok (.caload, 1) := by decide +kernel
theorem d16_350 : decode method_3_code 350 = .ok (.castore, 1) := by decide +kernel
theorem d16_351 : decode method_3_code 351 = .ok (.dup, 1) := by decide +kernel
theorem d16_352 : decode method_3_code 352 = .ok (.bipush 6, 2) := by decide +kernel
theorem d16_354 : decode method_3_code 354 = .ok (.aload_n 0, 1) := by decide +kernel
theorem d16_355 : decode method_3_code 355 = .ok (.bipush 6, 2) := by decide +kernel
theorem d16_357 : decode method_3_code 357 = .ok (.caload, 1) := by decide +kernel
theorem d16_358 : decode method_3_code 358 = .ok (.castore, 1) := by decide +kernel
theorem d16_359 : decode method_3_code 359 = .ok (.dup, 1) := by decide +kernel
theorem d16_360 : decode method_3_code 360 = .ok (.bipush 7, 2) := by decide +kernel
theorem d16_362 : decode method_3_code 362 = .ok (.aload_n 0, 1) := by decide +kernel
theorem d16_363 : decode method_3_code 363 = .ok (.bipush 7, 2) := by decide +kernel
theorem d16_365 : decode method_3_code 365 = .ok (.caload, 1) := by decide +kernel
theorem d16_366 : decode method_3_code 366 = .ok (.castore, 1) := by decide +kernel
theorem d16_367 : decode method_3_code 367 = .ok (.invokespecial 47, 3) := by decide +kernel
theorem d16_370 : decode method_3_code 370 = .ok (.areturn, 1) := by decide +kernel
theorem d16_371 : decode method_3_code 371 = .ok (.iload_n 1, 1) := by decide +kernel
theorem d16_372 : decode method_3_code 372 = .ok (.bipush 9, 2) := by decide +kernel
theorem d16_374 : decode method_3_code 374 = .ok (.if_icmp .ne 75, 3) := by decide +kernel
theorem d16_377 : decode method_3_code 377 = .ok (.new 23, 3) := by decide +kernel
theorem d16_380 : decode method_3_code 380 = .ok (.dup, 1) := by decide +kernel
theorem d16_381 : decode method_3_code 381 = .ok (.bipush 9, 2) := by decide +kernel
theorem d16_383 : decode method_3_code 383 = .ok (.newarray .char, 2) := by decide +kernel
theorem d16_385 : decode method_3_code 385 = .ok (.dup, 1) := by decide +kernel
theorem d16_386 : decode method_3_code 386 = .ok (.iconst 0, 1) := by decide +kernel
theorem d16_387 : decode method_3_code 387 = .ok (.aload_n 0, 1) := by decide +kernel
theorem d16_388 : decode method_3_code 388 = .ok (.iconst 0, 1) := by decide +kernel
theorem d16_389 : decode method_3_code 389 = .ok (.caload, 1) := by decide +kernel
theorem d16_390 : decode method_3_code 390 = .ok (.castore, 1) := by decide +kernel
theorem d16_391 : decode method_3_code 391 = .ok (.dup, 1) := by decide +kernel
theorem d16_392 : decode method_3_code 392 = .ok (.iconst 1, 1) := by decide +kernel
theorem d16_393 : decode method_3_code 393 = .ok (.aload_n 0, 1) := by decide +kernel
theorem d16_394 : decode method_3_code 394 = .ok (.iconst 1, 1) := by decide +kernel
theorem d16_395 : decode method_3_code 395 = .ok (.caload, 1) := by decide +kernel
theorem d16_396 : decode method_3_code 396 = .ok (.castore, 1) := by decide +kernel
theorem d16_397 : decode method_3_code 397 = .ok (.dup, 1) := by decide +kernel
theorem d16_398 : decode method_3_code 398 = .ok (.iconst 2, 1) := by decide +kernel
theorem d16_399 : decode method_3_code 399 = .ok (.aload_n 0, 1) := by decide +kernel
theorem d16_400 : decode method_3_code 400 = .ok (.iconst 2, 1) := by decide +kernel
theorem d16_401 : decode method_3_code 401 = .ok (.caload, 1) := by decide +kernel
theorem d16_402 : decode method_3_code 402 = .ok (.castore, 1) := by decide +kernel
theorem d16_403 : decode method_3_code 403 = .ok (.dup, 1) := by decide +kernel
theorem d16_404 : decode method_3_code 404 = .ok (.iconst 3, 1) := by decide +kernel
theorem d16_405 : decode method_3_code 405 = .ok (.aload_n 0, 1) := by decide +kernel
theorem d16_406 : decode method_3_code 406 = .ok (.iconst 3, 1) := by decide +kernel
theorem d16_407 : decode method_3_code 407 = .ok (.caload, 1) := by decide +kernel
theorem d16_408 : decode method_3_code 408 = .ok (.castore, 1) := by decide +kernel
theorem d16_409 : decode method_3_code 409 = .ok (.dup, 1) := by decide +kernel
theorem d16_410 : decode method_3_code 410 = .ok (.iconst 4, 1) := by decide +kernel
theorem d16_411 : decode method_3_code 411 = .ok (.aload_n 0, 1) := by decide +kernel
theorem d16_412 : decode method_3_code 412 = .ok (.iconst 4, 1) := by decide +kernel
theorem d16_413 : decode method_3_code 413 = .ok (.caload, 1) := by decide +kernel
theorem d16_414 : decode method_3_code 414 = .ok (.castore, 1) := by decide +kernel
theorem d16_415 : decode method_3_code 415 = .ok (.dup, 1) := by decide +kernel
theorem d16_416 : decode method_3_code 416 = .ok (.iconst 5, 1) := by decide +kernel
theorem d16_417 : decode method_3_code 417 = .ok (.aload_n 0, 1) := by decide +kernel
theorem d16_418 : decode method_3_code 418 = .ok (.iconst 5, 1) := by decide +kernel
theorem d16_419 : decode method_3_code 419 = .ok (.caload, 1) := by decide +kernel
theorem d16_420 : decode method_3_code 420 = .ok (.castore, 1) := by decide +kernel
theorem d16_421 : decode method_3_code 421 = .ok (.dup, 1) := by decide +kernel
theorem d16_422 : decode method_3_code 422 = .ok (.bipush 6, 2) := by decide +kernel
theorem d16_424 : decode method_3_code 424 = .ok (.aload_n 0, 1) := by decide +kernel
theorem d16_425 : decode method_3_code 425 = .ok (.bipush 6, 2) := by decide +kernel
theorem d16_427 : decode method_3_code 427 = .ok (.caload, 1) := by decide +kernel
theorem d16_428 : decode method_3_code 428 = .ok (.castore, 1) := by decide +kernel
theorem d16_429 : decode method_3_code 429 = .ok (.dup, 1) := by decide +kernel
theorem d16_430 : decode method_3_code 430 = .ok (.bipush 7, 2) := by decide +kernel
theorem d16_432 : decode method_3_code 432 = .ok (.aload_n 0, 1) := by decide +kernel
theorem d16_433 : decode method_3_code 433 = .ok (.bipush 7, 2) := by decide +kernel
theorem d16_435 : decode method_3_code 435 = .ok (.caload, 1) := by decide +kernel
theorem d16_436 : decode method_3_code 436 = .ok (.castore, 1) := by decide +kernel
theorem d16_437 : decode method_3_code 437 = .ok (.dup, 1) := by decide +kernel
theorem d16_438 : decode method_3_code 438 = .ok (.bipush 8, 2) := by decide +kernel
theorem d16_440 : decode method_3_code 440 = .ok (.aload_n 0, 1) := by decide +kernel
theorem d16_441 : decode method_3_code 441 = .ok (.bipush 8, 2) := by decide +kernel
theorem d16_443 : decode method_3_code 443 = .ok (.caload, 1) := by decide +kernel
theorem d16_444 : decode method_3_code 444 = .ok (.castore, 1) := by decide +kernel
theorem d16_445 : decode method_3_code 445 = .ok (.invokespecial 47, 3) := by decide +kernel
theorem d16_448 : decode method_3_code 448 = .ok (.areturn, 1) := by decide +kernel
theorem d16_449 : decode method_3_code 449 = .ok (.new 23, 3) := by decide +kernel
theorem d16_452 : decode method_3_code 452 = .ok (.dup, 1) := by decide +kernel
theorem d16_453 : decode method_3_code 453 = .ok (.bipush 10, 2) := by decide +kernel
theorem d16_455 : decode method_3_code 455 = .ok (.newarray .char, 2) := by decide +kernel
theorem d16_457 : decode method_3_code 457 = .ok (.dup, 1) := by decide +kernel
theorem d16_458 : decode method_3_code 458 = .ok (.iconst 0, 1) := by decide +kernel
theorem d16_459 : decode method_3_code 459 = .ok (.aload_n 0, 1) := by decide +kernel
theorem d16_460 : decode method_3_code 460 = .ok (.iconst 0, 1) := by decide +kernel
theorem d16_461 : decode method_3_code 461 = .ok (.caload, 1) := by decide +kernel
theorem d16_462 : decode method_3_code 462 = .ok (.castore, 1) := by decide +kernel
theorem d16_463 : decode method_3_code 463 = .ok (.dup, 1) := by decide +kernel
theorem d16_464 : decode method_3_code 464 = .ok (.iconst 1, 1) := by decide +kernel
theorem d16_465 : decode method_3_code 465 = .ok (.aload_n 0, 1) := by decide +kernel
theorem d16_466 : decode method_3_code 466 = .ok (.iconst 1, 1) := by decide +kernel
theorem d16_467 : decode method_3_code 467 = .ok (.caload, 1) := by decide +kernel
theorem d16_468 : decode method_3_code 468 = .ok (.castore, 1) := by decide +kernel
theorem d16_469 : decode method_3_code 469 = .ok (.dup, 1) := by decide +kernel
theorem d16_470 : decode method_3_code 470 = .ok (.iconst 2, 1) := by decide +kernel
theorem d16_471 : decode method_3_code 471 = .ok (.aload_n 0, 1) := by decide +kernel
theorem d16_472 : decode method_3_code 472 = .ok (.iconst 2, 1) := by decide +kernel
theorem d16_473 : decode method_3_code 473 = .ok (.caload, 1) := by decide +kernel
theorem d16_474 : decode method_3_code 474 = .ok (.castore, 1) := by decide +kernel
theorem d16_475 : decode method_3_code 475 = .ok (.dup, 1) := by decide +kernel
theorem d16_476 : decode method_3_code 476 = .ok (.iconst 3, 1) := by decide +kernel
theorem d16_477 : decode method_3_code 477 = .ok (.aload_n 0, 1) := by decide +kernel
theorem d16_478 : decode method_3_code 478 = .ok (.iconst 3, 1) := by decide +kernel
theorem d16_479 : decode method_3_code 479 = .ok (.caload, 1) := by decide +kernel
theorem d16_480 : decode method_3_code 480 = .ok (.castore, 1) := by decide +kernel
theorem d16_481 : decode method_3_code 481 = .ok (.dup, 1) := by decide +kernel
theorem d16_482 : decode method_3_code 482 = .ok (.iconst 4, 1) := by decide +kernel
theorem d16_483 : decode method_3_code 483 = .ok (.aload_n 0, 1) := by decide +kernel
theorem d16_484 : decode method_3_code 484 = .ok (.iconst 4, 1) := by decide +kernel
theorem d16_485 : decode method_3_code 485 = .ok (.caload, 1) := by decide +kernel
theorem d16_486 : decode method_3_code 486 = .ok (.castore, 1) := by decide +kernel
theorem d16_487 : decode method_3_code 487 = .ok (.dup, 1) := by decide +kernel
theorem d16_488 : decode method_3_code 488 = .ok (.iconst 5, 1) := by decide +kernel
theorem d16_489 : decode method_3_code 489 = .ok (.aload_n 0, 1) := by decide +kernel
theorem d16_490 : decode method_3_code 490 = .ok (.iconst 5, 1) := by decide +kernel
theorem d16_491 : decode method_3_code 491 = .ok (.caload, 1) := by decide +kernel
theorem d16_492 : decode method_3_code 492 = .ok (.castore, 1) := by decide +kernel
theorem d16_493 : decode method_3_code 493 = .ok (.dup, 1) := by decide +kernel
theorem d16_494 : decode method_3_code 494 = .ok (.bipush 6, 2) := by decide +kernel
theorem d16_496 : decode method_3_code 496 = .ok (.aload_n 0, 1) := by decide +kernel
theorem d16_497 : decode method_3_code 497 = .ok (.bipush 6, 2) := by decide +kernel
theorem d16_499 : decode method_3_code 499 = .ok (.caload, 1) := by decide +kernel
theorem d16_500 : decode method_3_code 500 = .ok (.castore, 1) := by decide +kernel
theorem d16_501 : decode method_3_code 501 = .ok (.dup, 1) := by decide +kernel
theorem d16_502 : decode method_3_code 502 = .ok (.bipush 7, 2) := by decide +kernel
theorem d16_504 : decode method_3_code 504 = .ok (.aload_n 0, 1) := by decide +kernel
theorem d16_505 : decode method_3_code 505 = .ok (.bipush 7, 2) := by decide +kernel
theorem d16_507 : decode method_3_code 507 = .ok (.caload, 1) := by decide +kernel
theorem d16_508 : decode method_3_code 508 = .ok (.castore, 1) := by decide +kernel
theorem d16_509 : decode method_3_code 509 = .ok (.dup, 1) := by decide +kernel
theorem d16_510 : decode method_3_code 510 = .ok (.bipush 8, 2) := by decide +kernel
theorem d16_512 : decode method_3_code 512 = .ok (.aload_n 0, 1) := by decide +kernel
theorem d16_513 : decode method_3_code 513 = .ok (.bipush 8, 2) := by decide +kernel
theorem d16_515 : decode method_3_code 515 = .ok (.caload, 1) := by decide +kernel
theorem d16_516 : decode method_3_code 516 = .ok (.castore, 1) := by decide +kernel
theorem d16_517 : decode method_3_code 517 = .ok (.dup, 1) := by decide +kernel
theorem d16_518 : decode method_3_code 518 = .ok (.bipush 9, 2) := by decide +kernel
theorem d16_520 : decode method_3_code 520 = .ok (.aload_n 0, 1) := by decide +kernel
theorem d16_521 : decode method_3_code 521 = .ok (.bipush 9, 2) := by decide +kernel
theorem d16_523 : decode method_3_code 523 = .ok (.caload, 1) := by decide +kernel
theorem d16_524 : decode method_3_code 524 = .ok (.castore, 1) := by decide +kernel
theorem d16_525 : decode method_3_code 525 = .ok (.invokespecial 47, 3) := by decide +kernel
theorem d16_528 : decode method_3_code 528 = .ok (.areturn, 1) := by decide +kernel
theorem pn6 : plainName "com/example/picketline/picketline/protocol/ProtocolNamedPinLaw" = true := by first | (simp [plainName, overriddenIn]; done) | decide +kernel
theorem pd12 : parseMethodDescriptor "([C)V" = some ⟨[(.array .char)], none⟩ := by decide +kernel
theorem efPx (m : MethodId) (a1 : Addr) (p1 : Int32) : entryFrame m #[(.ref a1), (.int p1)] 2 = mkF m 0 #[rv a1, iv p1] [] := by first | (simp [entryFrame, mkF, argsToLocals, Value.category]; done) | rfl
def QPx (Z : State) (a1 : Addr) (p1 : Int32) (cz : Int32) (fv : Value) (kc : ClassId) (c0 : Int32) (c1 : Int32) (c2 : Int32) (c3 : Int32) (c4 : Int32) (c5 : Int32) (c6 : Int32) (c7 : Int32) (c8 : Int32) (c9 : Int32) (h0 : Heap) (n0 : Nat) (v : Option Value) (h : Heap) (L : List Loc) : Prop := ∃ b bb k n bs, v = some (.ref b) ∧ Fr n0 L ∧ Keep h0 h [] ∧ h0.size ≤ b ∧ StL Z h b bb k n bs 0 0 ∧ n.toInt = bs.length
set_option maxRecDepth 65536 in
set_option maxHeartbeats 40000000 in
theorem rmPx (l : Launch) (Z : State) (a0 : Array Value) (hw : HW a0 Z) (ws : List Jvm.Cond) (a1 : Addr) (p1 : Int32) (cz : Int32) (fv : Value) (kc : ClassId) (c0 : Int32) (c1 : Int32) (c2 : Int32) (c3 : Int32) (c4 : Int32) (c5 : Int32) (c6 : Int32) (c7 : Int32) (c8 : Int32) (c9 : Int32) (h0 : Heap) (n0 : Nat) (Z0 : n0 ≤ h0.size) (O0 : Old Z n0 h0) (J0 : Jd Z cz fv) (V1 : Arv Z h0 a1 kc .char (10 : Int32) [(.int c0), (.int c1), (.int c2), (.int c3), (.int c4), (.int c5), (.int c6), (.int c7), (.int c8), (.int c9)] (.int 0)) (rc0 : okb c0) (rc1 : okb c1) (rc2 : okb c2) (rc3 : okb c3) (rc4 : okb c4) (rc5 : okb c5) (rc6 : okb c6) (rc7 : okb c7) (rc8 : okb c8) (rc9 : okb c9) :
    MetFree l mN16 (head1 (Jvm.Cond.code mN16 method_3_code 2 (some (.object "java/lang/String")) :: ws) rKPx) (fun a U => a = #[(.ref a1), (.int p1)] ∧ Z.Warmed39 U.vm ∧ U.heap = h0 ∧ CHv Z [("com/example/picketline/picketline/protocol/Protocol", 37), ("com/example/picketline/picketline/protocol/ProtocolNamedPinLaw", 20), ("com/example/picketline/picketline/protocol/ProtocolNamedPinLaw", 42), ("java/lang/String", 7)] U.vm h0) (fun _ _ _ _ _ => True) (fun _ U o U' => ∃ v L, o = .returned v ∧ QPx Z a1 p1 cz fv kc c0 c1 c2 c3 c4 c5 c6 c7 c8 c9 h0 n0 v U'.heap L ∧ CHr Z [("com/example/picketline/picketline/protocol/Protocol", 37), ("com/example/picketline/picketline/protocol/ProtocolNamedPinLaw", 20), ("com/example/picketline/picketline/protocol/ProtocolNamedPinLaw", 42), ("java/lang/String", 7)] U.vm U.heap U'.vm U'.heap ∧ ReturnedEndW U o U' L rKPx.cells rKPx.slots) := by
  refine MetFree.of_bodySF (plainFor_of_name pn6) hisR ?_
  intro p e s m args bl meth c s1 Bd hml0 hP hK
  obtain ⟨rfl, hZ, hh, hC⟩ := hP
  have hx := Bd.exec
  have hby := Bd.bytes
  have B := @hb c _ hby
  have hM := fun {n : Nat} (h : n = 2) => h.trans hml0.symm
  have hown : s.vm.findClass "com/example/picketline/picketline/protocol/ProtocolNamedPinLaw" = some m.cls := findClass_of_methodNamed Bd.named
  have X0 : Stand p l e rKPx (s.setVm s.vm) m #[(.ref a1), (.int p1)] bl meth c s1 [] 0 0 := Stand.of_body Bd
  have e0 : s1.heap = h0 := by rw [← hh, Bd.state]; rfl
  have N0 := Fr.nil n0
  obtain ⟨EF, hEF⟩ : ∃ f, f = entryFrame m #[(.ref a1), (.int p1)] 2 := ⟨_, rfl⟩
  have pre0 : Go p e bl s1 (mkF m 0 #[rv a1, iv p1] []) s1 EF := fun t k => by rw [hEF]; exact castTop (efPx m a1 p1) k
  have hZ0 : Z.Warmed39 (s.setVm s.vm).vm := hZ
  have hown0 : (s.setVm s.vm).vm.findClass "com/example/picketline/picketline/protocol/ProtocolNamedPinLaw" = some m.cls := hown
  have hS0 : s.Since s.vm s.heap.size := (State.WarmedH.refl s).since _
  have hk0 : s.heap.size ≤ h0.size := by rw [← hh]; exact Nat.le_refl _
  have pre1 : Go p e bl s1 (mkF m 1 #[rv a1, iv p1] [(.int p1)]) s1 EF := fun t k => pre0 t (by
   exact XS.iloadN X0.here hx rfl (B d16_0) rfl k)
  by_cases hc1 : (0 : Int32) < p1
  · have pre2 : Go p e bl s1 (mkF m 15 #[rv a1, iv p1] []) s1 EF := fun t k => pre1 t (XS.ifYes X0.here hx rfl (pc0 := 1) (pc' := 15) rfl (B d16_1) rfl ((if0 _ _).trans (tlt hc1).2.2.1) (by decide) (by decide) k)
    have pre3 : Go p e bl s1 (mkF m 17 #[rv a1, iv p1] [(.int 1), (.int p1)]) s1 EF := fun t k => pre2 t (by
     refine XS.iloadN X0.here hx rfl (B d16_15) rfl ?_
     exact XS.iconst X0.here hx rfl (B d16_16) k)
    by_cases hc17 : p1 = (1 : Int32)
    · have pre4 : Go p e bl s1 (mkF m 20 #[rv a1, iv p1] []) s1 EF := fun t k => pre3 t (XS.icmpNo X0.here hx rfl (B d16_17) rfl (teq hc17).2 k)
      obtain ⟨T5, h5, X5, e5, Et5, A5, D5, U5, st5⟩ := newO X0 hx hZ0 hown0 (hw _ (mW 5 rfl)) (hw _ (mW 6 rfl)) (hw _ (mW 7 rfl)) e0 (g := (mkF m 20 #[rv a1, iv p1] [])) rfl (B d16_20) (by decide) (by decide)
      obtain ⟨b5, g5⟩ : ∃ z, z = h0.size := ⟨_, rfl⟩
      rw [← g5] at A5 st5 D5
      have g_b5 : n0 ≤ b5 := Nat.le_trans Z0 (Nat.le_of_eq g5.symm)
      have sz_b5 : h0.size ≤ b5 := Nat.le_trans (Keep.refl h0 []).1 (Nat.le_of_eq g5.symm)
      have sfn_b5 : Safe Z [("com/example/picketline/picketline/protocol/Protocol", 37), ("com/example/picketline/picketline/protocol/ProtocolNamedPinLaw", 20), ("com/example/picketline/picketline/protocol/ProtocolNamedPinLaw", 42), ("java/lang/String", 7)] s.vm h0 b5 := Safe.new (Nat.le_of_eq g5.symm)
      have ne_a1_b5 : a1 ≠ b5 := Nat.ne_of_lt (Nat.lt_of_lt_of_le V1.lt (Nat.le_of_eq g5.symm))
      have pre6 : Go p e bl T5 (mkF m 23 #[rv a1, iv p1] [(.ref b5)]) s1 EF := fun t k => pre4 t (st5 t k)
      have O7 : Old Z n0 h5 := O0.ext Et5
      have Z7 : n0 ≤ h5.size := Nat.le_trans Z0 Et5.1
      have hk7 := Nat.le_trans hk0 Et5.1
      have C7 := CHv.ext Et5 hC
      have R7 := (CHr.refl hC).trans (CHr.ext Et5 hC)
      have sf7_b5 := Safe.ext Et5 hC sfn_b5
      have K7 : Keep h0 h5 [] := (Keep.refl h0 []).ext Et5
      have F_coder_b5 : Fld Z h5 b5 "java/lang/String" "coder" "B" (.int 0) := D5 (Or.inr (hw _ (mW 31 rfl))) (ty := .byte) (by decide)
      have F_value_b5 : Fld Z h5 b5 "java/lang/String" "value" "[B" .null := D5 (Or.inr (hw _ (mW 33 rfl))) (ty := (.array .byte)) (by decide)
      have pre8 : Go p e bl T5 (mkF m 25 #[rv a1, iv p1] [(.int 1), (.ref b5), (.ref b5)]) s1 EF := fun t k => pre6 t (by
       refine XS.dup X5.here hx rfl (B d16_23) rfl rfl ?_
       exact XS.iconst X5.here hx rfl (B d16_24) k)
      obtain ⟨T9, h9, k9, X9, e9, Et9, A9, st9⟩ := newP X5 hx hZ0 (hw _ (mW 0 rfl)) e5 (g := (mkF m 25 #[rv a1, iv p1] [(.int 1), (.ref b5), (.ref b5)])) rfl (B d16_25) rfl (by decide) (cap := 1) (by decide) (by decide) (by decide) (by decide)
      obtain ⟨b9, g9⟩ : ∃ z, z = h5.size := ⟨_, rfl⟩
      rw [← g9] at A9 st9
      have g_b9 : n0 ≤ b9 := Nat.le_trans Z7 (Nat.le_of_eq g9.symm)
      have sz_b9 : h0.size ≤ b9 := Nat.le_trans K7.1 (Nat.le_of_eq g9.symm)
      have sfn_b9 : Safe Z [("com/example/picketline/picketline/protocol/Protocol", 37), ("com/example/picketline/picketline/protocol/ProtocolNamedPinLaw", 20), ("com/example/picketline/picketline/protocol/ProtocolNamedPinLaw", 42), ("java/lang/String", 7)] s.vm h5 b9 := Safe.new (Nat.le_of_eq g9.symm)
      have ne_a1_b9 : a1 ≠ b9 := Nat.ne_of_lt (Nat.lt_of_lt_of_le (V1.ext Et5).lt (Nat.le_of_eq g9.symm))
      have ne_b5_b9 : b5 ≠ b9 := Nat.ne_of_lt (Nat.lt_of_lt_of_le A5.lt (Nat.le_of_eq g9.symm))
      have pre10 : Go p e bl T9 (mkF m 27 #[rv a1, iv p1] [(.ref b9), (.ref b5), (.ref b5)]) s1 EF := fun t k => pre8 t (st9 t k)
      have O11 : Old Z n0 h9 := O7.ext Et9
      have Z11 : n0 ≤ h9.size := Nat.le_trans Z7 Et9.1
      have hk11 := Nat.le_trans hk7 Et9.1
      have C11 := CHv.ext Et9 C7
      have R11 := R7.trans (CHr.ext Et9 C7)
      have sf11_b5 := Safe.ext Et9 C7 sf7_b5
      have sf11_b9 := Safe.ext Et9 C7 sfn_b9
      have K11 : Keep h0 h9 [] := K7.ext Et9
      have V9 : Arv Z h9 b9 k9 .char (1 : Int32) [(.int 0)] (.int 0) := (Arv.new A9 (by decide)).pad (pad_rep [] (.int 0) 1)
      have pre12 : Go p e bl T9 (mkF m 31 #[rv a1, iv p1] [(.int 0), (.ref a1), (.int 0), (.ref b9), (.ref b9), (.ref b5), (.ref b5)]) s1 EF := fun t k => pre10 t (by
       refine XS.dup X9.here hx rfl (B d16_27) rfl rfl ?_
       refine XS.iconst X9.here hx rfl (B d16_28) ?_
       refine XS.aloadN X9.here hx rfl (B d16_29) rfl rfl ?_
       exact XS.iconst X9.here hx rfl (B d16_30) k)
      obtain ⟨cl13, Ar13, q13, Sz13, M13, H13, G13⟩ := id ((V1.ext Et5).ext Et9)
      have hin13 := inb_of (j := (0 : Int32)) Sz13 ⟨by decide, by decide⟩
      have hat13 := Has.at (v := (.int c0)) H13 hin13 rfl
      have pre14 : Go p e bl T9 (mkF m 32 #[rv a1, iv p1] [(.int c0), (.int 0), (.ref b9), (.ref b9), (.ref b5), (.ref b5)]) s1 EF := fun t k => pre12 t (by
       exact X9.caload hx (j := 0) (v := (.int c0)) (hp e9 Ar13) (State.isArrayOf_alike hZ0.alike Ar13.2.1) Ar13.2.2 hin13 hat13 (g := (mkF m 31 #[rv a1, iv p1] [(.int 0), (.ref a1), (.int 0), (.ref b9), (.ref b9), (.ref b5), (.ref b5)])) rfl rfl (B d16_31) _ k)
      obtain ⟨cl15, Ar15, q15, Sz15, M15, H15, G15⟩ := id V9
      have hin15 := inb_of (j := (0 : Int32)) Sz15 ⟨by decide, by decide⟩
      obtain ⟨T15, h15, X15, e15, W15, st15⟩ := stC X9 hx hZ0 e9 Ar15 (j := 0) hin15 (g := (mkF m 32 #[rv a1, iv p1] [(.int c0), (.int 0), (.ref b9), (.ref b9), (.ref b5), (.ref b5)])) rfl rfl (B d16_32)
      rw [rc0.nc] at W15
      have pre16 : Go p e bl T15 (mkF m 33 #[rv a1, iv p1] [(.ref b9), (.ref b5), (.ref b5)]) s1 EF := fun t k => pre14 t (st15 t k)
      have O17 : Old Z n0 h15 := O11.wr W15 g_b9
      have Z17 : n0 ≤ h15.size := Nat.le_trans Z11 (Keep.of_wr W15).1
      have hk17 := Nat.le_trans hk11 (Keep.of_wr W15).1
      have C17 := CHv.wr W15 sf11_b9 C11
      have R17 := R11.trans (CHr.wr W15 sf11_b9 C11)
      have sf17_b5 := Safe.wr W15 sf11_b9 C11 sf11_b5
      have sf17_b9 := Safe.wr W15 sf11_b9 C11 sf11_b9
      have K17 : Keep h0 h15 [] := K11.wr W15 (Or.inr sz_b9)
      have V15 : Arv Z h15 b9 k9 .char (1 : Int32) [(.int c0)] (.int 0) := Arv.set Ar15 q15 Sz15 M15 H15 G15 (own_fitc rc0.nc) W15 0 rfl (wl rfl)
      have N15 := Fr.snoc X15 N0 g_b9
      obtain ⟨_, _, ⟨T18, L18, k18, n18⟩, -, X18, ⟨Lc18, hQ18, l18, y18, z18⟩, st18⟩ := X15.specialBack hx (y := mN6) rfl hown0 (mvT hZ0 (hw _ (mW 8 rfl))) (mvT hZ0 (hw _ (mW 9 rfl))) (mvT hZ0 (hw _ (mW 10 rfl))) (by decide) (backOf (W := 1) (rmKj l Z a0 hw [] b5 b9 cz fv (1 : Int32) k9 [c0] h15 n0 Z17 O17 J0 ((A5.ext Et9).wr W15) g_b5 (Fld.other W15 (F_value_b5.ext Et9) (Or.inl ne_b5_b9)) (Fld.other W15 (F_coder_b5.ext Et9) (Or.inl ne_b5_b9)) V15 (by decide) rfl (wl rfl) (wl rfl) (List.forall_mem_cons.mpr ⟨rc0.le, (fun _ q => nomatch q)⟩)) hZ0 (hw _ (mW 10 rfl)) (hw _ (mW 7 rfl)) (by decide) (by decide)) (g := (mkF m 33 #[rv a1, iv p1] [(.ref b9), (.ref b5), (.ref b5)])) rfl (hM rfl) (Steps.refl _) (a := b5) (argsL := [(.ref b9)]) (rest := [(.ref b5)]) (lenOf pd12 rfl) rfl (Nat.le_of_eq rfl) (B d16_33) (fun _ _ => ⟨rfl, e15, wl rfl, wl rfl⟩)
      dsimp only [Pt.U, Pt.locs, Pt.cells, Pt.slots] at X18 l18 y18 z18 st18 hQ18
      subst l18 y18 z18
      obtain ⟨rfl, N18q, K18, bv18, kb18, hsz18, SF18⟩ := hQ18
      have N18 := Fr.app N15 N18q
      have pre19 : Go p e bl T18 (mkF m 36 #[rv a1, iv p1] [(.ref b5)]) s1 EF := fun t k => pre16 t (st18.trans k)
      have O20 : Old Z n0 T18.heap := O17.keep K18 (allS g_b5 all0)
      have Z20 : n0 ≤ T18.heap.size := Nat.le_trans Z17 K18.1
      have hk20 := Nat.le_trans hk17 K18.1
      have C20 := CHv.keep K18 (sfS sf17_b5 sf0) C17
      have R20 := R17.trans (CHr.keep K18 (sfS sf17_b5 sf0) C17)
      have sf20_b5 := Safe.keep K18 (sfS sf17_b5 sf0) C17 sf17_b5
      have sf20_b9 := Safe.keep K18 (sfS sf17_b5 sf0) C17 sf17_b9
      have K20 : Keep h0 T18.heap [] := K17.trans K18 (allS (Or.inr sz_b5) all0)
      obtain ⟨fs, hr, hrun, hended, hend1, hend2, hend3, hsame⟩ := X18.leaveW hS0 hk20 (v := some (.ref b5)) (fun h => by rw [Bd.returns] at h; cases h)
      have hCH : CHr Z [("com/example/picketline/picketline/protocol/Protocol", 37), ("com/example/picketline/picketline/protocol/ProtocolNamedPinLaw", 20), ("com/example/picketline/picketline/protocol/ProtocolNamedPinLaw", 42), ("java/lang/String", 7)] s.vm s.heap T18.vm T18.heap := by rw [hh]; exact R20.trans (CHv.at X18 hZ0 (own_EW hw) C20)
      refine ⟨_, _, hEF ▸ pre19 _ (retOut X18 hx Bd.returns rfl (Or.inr (Or.inr (Or.inr (Or.inr ⟨rfl, rfl, rfl⟩)))) (B d16_36) hr), hrun, hended, _, _, rfl, ?_, hCH, hend1, hend2, hend3, hsame.mono (by decide) (by decide)⟩
      show QPx Z a1 p1 cz fv kc c0 c1 c2 c3 c4 c5 c6 c7 c8 c9 h0 n0 _ T18.heap _
      exact ⟨_, _, _, _, _, rfl, N18, K20, sz_b5, SF18, by rfl⟩
    have pre21 : Go p e bl s1 (mkF m 37 #[rv a1, iv p1] []) s1 EF := fun t k => pre3 t (XS.icmpYes X0.here hx rfl (pc0 := 17) (pc' := 37) rfl (B d16_17) rfl (feq hc17).2 (by decide) (by decide) k)
    have pre22 : Go p e bl s1 (mkF m 39 #[rv a1, iv p1] [(.int 2), (.int p1)]) s1 EF := fun t k => pre21 t (by
     refine XS.iloadN X0.here hx rfl (B d16_37) rfl ?_
     exact XS.iconst X0.here hx rfl (B d16_38) k)
    by_cases hc39 : p1 = (2 : Int32)
    · have pre23 : Go p e bl s1 (mkF m 42 #[rv a1, iv p1] []) s1 EF := fun t k => pre22 t (XS.icmpNo X0.here hx rfl (B d16_39) rfl (teq hc39).2 k)
      obtain ⟨T24, h24, X24, e24, Et24, A24, D24, U24, st24⟩ := newO X0 hx hZ0 hown0 (hw _ (mW 5 rfl)) (hw _ (mW 6 rfl)) (hw _ (mW 7 rfl)) e0 (g := (mkF m 42 #[rv a1, iv p1] [])) rfl (B d16_42) (by decide) (by decide)
      obtain ⟨b24, g24⟩ : ∃ z, z = h0.size := ⟨_, rfl⟩
      rw [← g24] at A24 st24 D24
      have g_b24 : n0 ≤ b24 := Nat.le_trans Z0 (Nat.le_of_eq g24.symm)
      have sz_b24 : h0.size ≤ b24 := Nat.le_trans (Keep.refl h0 []).1 (Nat.le_of_eq g24.symm)
      have sfn_b24 : Safe Z [("com/example/picketline/picketline/protocol/Protocol", 37), ("com/example/picketline/picketline/protocol/ProtocolNamedPinLaw", 20), ("com/example/picketline/picketline/protocol/ProtocolNamedPinLaw", 42), ("java/lang/String", 7)] s.vm h0 b24 := Safe.new (Nat.le_of_eq g24.symm)
      have ne_a1_b24 : a1 ≠ b24 := Nat.ne_of_lt (Nat.lt_of_lt_of_le V1.lt (Nat.le_of_eq g24.symm))
      have pre25 : Go p e bl T24 (mkF m 45 #[rv a1, iv p1] [(.ref b24)]) s1 EF := fun t k => pre23 t (st24 t k)
      have O26 : Old Z n0 h24 := O0.ext Et24
      have Z26 : n0 ≤ h24.size := Nat.le_trans Z0 Et24.1
      have hk26 := Nat.le_trans hk0 Et24.1
      have C26 := CHv.ext Et24 hC
      have R26 := (CHr.refl hC).trans (CHr.ext Et24 hC)
      have sf26_b24 := Safe.ext Et24 hC sfn_b24
      have K26 : Keep h0 h24 [] := (Keep.refl h0 []).ext Et24
      have F_coder_b24 : Fld Z h24 b24 "java/lang/String" "coder" "B" (.int 0) := D24 (Or.inr (hw _ (mW 31 rfl))) (ty := .byte) (by decide)
      have F_value_b24 : Fld Z h24 b24 "java/lang/String" "value" "[B" .null := D24 (Or.inr (hw _ (mW 33 rfl))) (ty := (.array .byte)) (by decide)
      have pre27 : Go p e bl T24 (mkF m 47 #[rv a1, iv p1] [(.int 2), (.ref b24), (.ref b24)]) s1 EF := fun t k => pre25 t (by
       refine XS.dup X24.here hx rfl (B d16_45) rfl rfl ?_
       exact XS.iconst X24.here hx rfl (B d16_46) k)
      obtain ⟨T28, h28, k28, X28, e28, Et28, A28, st28⟩ := newP X24 hx hZ0 (hw _ (mW 0 rfl)) e24 (g := (mkF m 47 #[rv a1, iv p1] [(.int 2), (.ref b24), (.ref b24)])) rfl (B d16_47) rfl (by decide) (cap := 2) (by decide) (by decide) (by decide) (by decide)
      obtain ⟨b28, g28⟩ : ∃ z, z = h24.size := ⟨_, rfl⟩
      rw [← g28] at A28 st28
      have g_b28 : n0 ≤ b28 := Nat.le_trans Z26 (Nat.le_of_eq g28.symm)
      have sz_b28 : h0.size ≤ b28 := Nat.le_trans K26.1 (Nat.le_of_eq g28.symm)
      have sfn_b28 : Safe Z [("com/example/picketline/picketline/protocol/Protocol", 37), ("com/example/picketline/picketline/protocol/ProtocolNamedPinLaw", 20), ("com/example/picketline/picketline/protocol/ProtocolNamedPinLaw", 42), ("java/lang/String", 7)] s.vm h24 b28 := Safe.new (Nat.le_of_eq g28.symm)
      have ne_a1_b28 : a1 ≠ b28 := Nat.ne_of_lt (Nat.lt_of_lt_of_le (V1.ext Et24).lt (Nat.le_of_eq g28.symm))
      have ne_b24_b28 : b24 ≠ b28 := Nat.ne_of_lt (Nat.lt_of_lt_of_le A24.lt (Nat.le_of_eq g28.symm))
      have pre29 : Go p e bl T28 (mkF m 49 #[rv a1, iv p1] [(.ref b28), (.ref b24), (.ref b24)]) s1 EF := fun t k => pre27 t (st28 t k)
      have O30 : Old Z n0 h28 := O26.ext Et28
      have Z30 : n0 ≤ h28.size := Nat.le_trans Z26 Et28.1
      have hk30 := Nat.le_trans hk26 Et28.1
      have C30 := CHv.ext Et28 C26
      have R30 := R26.trans (CHr.ext Et28 C26)
      have sf30_b24 := Safe.ext Et28 C26 sf26_b24
      have sf30_b28 := Safe.ext Et28 C26 sfn_b28
      have K30 : Keep h0 h28 [] := K26.ext Et28
      have V28 : Arv Z h28 b28 k28 .char (2 : Int32) [(.int 0), (.int 0)] (.int 0) := (Arv.new A28 (by decide)).pad (pad_rep [] (.int 0) 2)
      have pre31 : Go p e bl T28 (mkF m 53 #[rv a1, iv p1] [(.int 0), (.ref a1), (.int 0), (.ref b28), (.ref b28), (.ref b24), (.ref b24)]) s1 EF := fun t k => pre29 t (by
       refine XS.dup X28.here hx rfl (B d16_49) rfl rfl ?_
       refine XS.iconst X28.here hx rfl (B d16_50) ?_
       refine XS.aloadN X28.here hx rfl (B d16_51) rfl rfl ?_
       exact XS.iconst X28.here hx rfl (B d16_52) k)
      obtain ⟨cl32, Ar32, q32, Sz32, M32, H32, G32⟩ := id ((V1.ext Et24).ext Et28)
      have hin32 := inb_of (j := (0 : Int32)) Sz32 ⟨by decide, by decide⟩
      have hat32 := Has.at (v := (.int c0)) H32 hin32 rfl
      have pre33 : Go p e bl T28 (mkF m 54 #[rv a1, iv p1] [(.int c0), (.int 0), (.ref b28), (.ref b28), (.ref b24), (.ref b24)]) s1 EF := fun t k => pre31 t (by
       exact X28.caload hx (j := 0) (v := (.int c0)) (hp e28 Ar32) (State.isArrayOf_alike hZ0.alike Ar32.2.1) Ar32.2.2 hin32 hat32 (g := (mkF m 53 #[rv a1, iv p1] [(.int 0), (.ref a1), (.int 0), (.ref b28), (.ref b28), (.ref b24), (.ref b24)])) rfl rfl (B d16_53) _ k)
      obtain ⟨cl34, Ar34, q34, Sz34, M34, H34, G34⟩ := id V28
      have hin34 := inb_of (j := (0 : Int32)) Sz34 ⟨by decide, by decide⟩
      obtain ⟨T34, h34, X34, e34, W34, st34⟩ := stC X28 hx hZ0 e28 Ar34 (j := 0) hin34 (g := (mkF m 54 #[rv a1, iv p1] [(.int c0), (.int 0), (.ref b28), (.ref b28), (.ref b24), (.ref b24)])) rfl rfl (B d16_54)
      rw [rc0.nc] at W34
      have pre35 : Go p e bl T34 (mkF m 55 #[rv a1, iv p1] [(.ref b28), (.ref b24), (.ref b24)]) s1 EF := fun t k => pre33 t (st34 t k)
      have O36 : Old Z n0 h34 := O30.wr W34 g_b28
      have Z36 : n0 ≤ h34.size := Nat.le_trans Z30 (Keep.of_wr W34).1
      have hk36 := Nat.le_trans hk30 (Keep.of_wr W34).1
      have C36 := CHv.wr W34 sf30_b28 C30
      have R36 := R30.trans (CHr.wr W34 sf30_b28 C30)
      have sf36_b24 := Safe.wr W34 sf30_b28 C30 sf30_b24
      have sf36_b28 := Safe.wr W34 sf30_b28 C30 sf30_b28
      have K36 : Keep h0 h34 [] := K30.wr W34 (Or.inr sz_b28)
      have V34 : Arv Z h34 b28 k28 .char (2 : Int32) [(.int c0), (.int 0)] (.int 0) := Arv.set Ar34 q34 Sz34 M34 H34 G34 (own_fitc rc0.nc) W34 0 rfl (wl rfl)
      have N34 := Fr.snoc X34 N0 g_b28
      have pre37 : Go p e bl T34 (mkF m 59 #[rv a1, iv p1] [(.int 1), (.ref a1), (.int 1), (.ref b28), (.ref b28), (.ref b24), (.ref b24)]) s1 EF := fun t k => pre35 t (by
       refine XS.dup X34.here hx rfl (B d16_55) rfl rfl ?_
       refine XS.iconst X34.here hx rfl (B d16_56) ?_
       refine XS.aloadN X34.here hx rfl (B d16_57) rfl rfl ?_
       exact XS.iconst X34.here hx rfl (B d16_58) k)
      obtain ⟨cl38, Ar38, q38, Sz38, M38, H38, G38⟩ := id (((V1.ext Et24).ext Et28).other W34 ne_a1_b28)
      have hin38 := inb_of (j := (1 : Int32)) Sz38 ⟨by decide, by decide⟩
      have hat38 := Has.at (v := (.int c1)) H38 hin38 rfl
      have pre39 : Go p e bl T34 (mkF m 60 #[rv a1, iv p1] [(.int c1), (.int 1), (.ref b28), (.ref b28), (.ref b24), (.ref b24)]) s1 EF := fun t k => pre37 t (by
       exact X34.caload hx (j := 1) (v := (.int c1)) (hp e34 Ar38) (State.isArrayOf_alike hZ0.alike Ar38.2.1) Ar38.2.2 hin38 hat38 (g := (mkF m 59 #[rv a1, iv p1] [(.int 1), (.ref a1), (.int 1), (.ref b28), (.ref b28), (.ref b24), (.ref b24)])) rfl rfl (B d16_59) _ k)
      obtain ⟨cl40, Ar40, q40, Sz40, M40, H40, G40⟩ := id V34
      have hin40 := inb_of (j := (1 : Int32)) Sz40 ⟨by decide, by decide⟩
      obtain ⟨T40, h40, X40, e40, W40, st40⟩ := stC X34 hx hZ0 e34 Ar40 (j := 1) hin40 (g := (mkF m 60 #[rv a1, iv p1] [(.int c1), (.int 1), (.ref b28), (.ref b28), (.ref b24), (.ref b24)])) rfl rfl (B d16_60)
      rw [rc1.nc] at W40
      have pre41 : Go p e bl T40 (mkF m 61 #[rv a1, iv p1] [(.ref b28), (.ref b24), (.ref b24)]) s1 EF := fun t k => pre39 t (st40 t k)
      have O42 : Old Z n0 h40 := O36.wr W40 g_b28
      have Z42 : n0 ≤ h40.size := Nat.le_trans Z36 (Keep.of_wr W40).1
      have hk42 := Nat.le_trans hk36 (Keep.of_wr W40).1
      have C42 := CHv.wr W40 sf36_b28 C36
      have R42 := R36.trans (CHr.wr W40 sf36_b28 C36)
      have sf42_b24 := Safe.wr W40 sf36_b28 C36 sf36_b24
      have sf42_b28 := Safe.wr W40 sf36_b28 C36 sf36_b28
      have K42 : Keep h0 h40 [] := K36.wr W40 (Or.inr sz_b28)
      have V40 : Arv Z h40 b28 k28 .char (2 : Int32) [(.int c0), (.int c1)] (.int 0) := Arv.set Ar40 q40 Sz40 M40 H40 G40 (own_fitc rc1.nc) W40 1 rfl (wl rfl)
      have N40 := Fr.snoc X40 N34 g_b28
      obtain ⟨_, _, ⟨T43, L43, k43, n43⟩, -, X43, ⟨Lc43, hQ43, l43, y43, z43⟩, st43⟩ := X40.specialBack hx (y := mN6) rfl hown0 (mvT hZ0 (hw _ (mW 8 rfl))) (mvT hZ0 (hw _ (mW 9 rfl))) (mvT hZ0 (hw _ (mW 10 rfl))) (by decide) (backOf (W := 1) (rmKj l Z a0 hw [] b24 b28 cz fv (2 : Int32) k28 [c0, c1] h40 n0 Z42 O42 J0 (((A24.ext Et28).wr W34).wr W40) g_b24 (Fld.other W40 (Fld.other W34 (F_value_b24.ext Et28) (Or.inl ne_b24_b28)) (Or.inl ne_b24_b28)) (Fld.other W40 (Fld.other W34 (F_coder_b24.ext Et28) (Or.inl ne_b24_b28)) (Or.inl ne_b24_b28)) V40 (by decide) rfl (wl rfl) (wl rfl) (List.forall_mem_cons.mpr ⟨rc0.le, (List.forall_mem_cons.mpr ⟨rc1.le, (fun _ q => nomatch q)⟩)⟩)) hZ0 (hw _ (mW 10 rfl)) (hw _ (mW 7 rfl)) (by decide) (by decide)) (g := (mkF m 61 #[rv a1, iv p1] [(.ref b28), (.ref b24), (.ref b24)])) rfl (hM rfl) (Steps.refl _) (a := b24) (argsL := [(.ref b28)]) (rest := [(.ref b24)]) (lenOf pd12 rfl) rfl (Nat.le_of_eq rfl) (B d16_61) (fun _ _ => ⟨rfl, e40, wl rfl, wl rfl⟩)
      dsimp only [Pt.U, Pt.locs, Pt.cells, Pt.slots] at X43 l43 y43 z43 st43 hQ43
      subst l43 y43 z43
      obtain ⟨rfl, N43q, K43, bv43, kb43, hsz43, SF43⟩ := hQ43
      have N43 := Fr.app N40 N43q
      have pre44 : Go p e bl T43 (mkF m 64 #[rv a1, iv p1] [(.ref b24)]) s1 EF := fun t k => pre41 t (st43.trans k)
      have O45 : Old Z n0 T43.heap := O42.keep K43 (allS g_b24 all0)
      have Z45 : n0 ≤ T43.heap.size := Nat.le_trans Z42 K43.1
      have hk45 := Nat.le_trans hk42 K43.1
      have C45 := CHv.keep K43 (sfS sf42_b24 sf0) C42
      have R45 := R42.trans (CHr.keep K43 (sfS sf42_b24 sf0) C42)
      have sf45_b24 := Safe.keep K43 (sfS sf42_b24 sf0) C42 sf42_b24
      have sf45_b28 := Safe.keep K43 (sfS sf42_b24 sf0) C42 sf42_b28
      have K45 : Keep h0 T43.heap [] := K42.trans K43 (allS (Or.inr sz_b24) all0)
      obtain ⟨fs, hr, hrun, hended, hend1, hend2, hend3, hsame⟩ := X43.leaveW hS0 hk45 (v := some (.ref b24)) (fun h => by rw [Bd.returns] at h; cases h)
      have hCH : CHr Z [("com/example/picketline/picketline/protocol/Protocol", 37), ("com/example/picketline/picketline/protocol/ProtocolNamedPinLaw", 20), ("com/example/picketline/picketline/protocol/ProtocolNamedPinLaw", 42), ("java/lang/String", 7)] s.vm s.heap T43.vm T43.heap := by rw [hh]; exact R45.trans (CHv.at X43 hZ0 (own_EW hw) C45)
      refine ⟨_, _, hEF ▸ pre44 _ (retOut X43 hx Bd.returns rfl (Or.inr (Or.inr (Or.inr (Or.inr ⟨rfl, rfl, rfl⟩)))) (B d16_64) hr), hrun, hended, _, _, rfl, ?_, hCH, hend1, hend2, hend3, hsame.mono (by decide) (by decide)⟩
      show QPx Z a1 p1 cz fv kc c0 c1 c2 c3 c4 c5 c6 c7 c8 c9 h0 n0 _ T43.heap _
      exact ⟨_, _, _, _, _, rfl, N43, K45, sz_b24, SF43, by rfl⟩
    have pre46 : Go p e bl s1 (mkF m 65 #[rv a1, iv p1] []) s1 EF := fun t k => pre22 t (XS.icmpYes X0.here hx rfl (pc0 := 39) (pc' := 65) rfl (B d16_39) rfl (feq hc39).2 (by decide) (by decide) k)
    have pre47 : Go p e bl s1 (mkF m 67 #[rv a1, iv p1] [(.int 3), (.int p1)]) s1 EF := fun t k => pre46 t (by
     refine XS.iloadN X0.here hx rfl (B d16_65) rfl ?_
     exact XS.iconst X0.here hx rfl (B d16_66) k)
    by_cases hc67 : p1 = (3 : Int32)
    · have pre48 : Go p e bl s1 (mkF m 70 #[rv a1, iv p1] []) s1 EF := fun t k => pre47 t (XS.icmpNo X0.here hx rfl (B d16_67) rfl (teq hc67).2 k)
      obtain ⟨T49, h49, X49, e49, Et49, A49, D49, U49, st49⟩ := newO X0 hx hZ0 hown0 (hw _ (mW 5 rfl)) (hw _ (mW 6 rfl)) (hw _ (mW 7 rfl)) e0 (g := (mkF m 70 #[rv a1, iv p1] [])) rfl (B d16_70) (by decide) (by decide)
      obtain ⟨b49, g49⟩ : ∃ z, z = h0.size := ⟨_, rfl⟩
      rw [← g49] at A49 st49 D49
      have g_b49 : n0 ≤ b49 := Nat.le_trans Z0 (Nat.le_of_eq g49.symm)
      have sz_b49 : h0.size ≤ b49 := Nat.le_trans (Keep.refl h0 []).1 (Nat.le_of_eq g49.symm)
      have sfn_b49 : Safe Z [("com/example/picketline/picketline/protocol/Protocol", 37), ("com/example/picketline/picketline/protocol/ProtocolNamedPinLaw", 20), ("com/example/picketline/picketline/protocol/ProtocolNamedPinLaw", 42), ("java/lang/String", 7)] s.vm h0 b49 := Safe.new (Nat.le_of_eq g49.symm)
      have ne_a1_b49 : a1 ≠ b49 := Nat.ne_of_lt (Nat.lt_of_lt_of_le V1.lt (Nat.le_of_eq g49.symm))
      have pre50 : Go p e bl T49 (mkF m 73 #[rv a1, iv p1] [(.ref b49)]) s1 EF := fun t k => pre48 t (st49 t k)
      have O51 : Old Z n0 h49 := O0.ext Et49
      have Z51 : n0 ≤ h49.size := Nat.le_trans Z0 Et49.1
      have hk51 := Nat.le_trans hk0 Et49.1
      have C51 := CHv.ext Et49 hC
      have R51 := (CHr.refl hC).trans (CHr.ext Et49 hC)
      have sf51_b49 := Safe.ext Et49 hC sfn_b49
      have K51 : Keep h0 h49 [] := (Keep.refl h0 []).ext Et49
      have F_coder_b49 : Fld Z h49 b49 "java/lang/String" "coder" "B" (.int 0) := D49 (Or.inr (hw _ (mW 31 rfl))) (ty := .byte) (by decide)
      have F_value_b49 : Fld Z h49 b49 "java/lang/String" "value" "[B" .null := D49 (Or.inr (hw _ (mW 33 rfl))) (ty := (.array .byte)) (by decide)
      have pre52 : Go p e bl T49 (mkF m 75 #[rv a1, iv p1] [(.int 3), (.ref b49), (.ref b49)]) s1 EF := fun t k => pre50 t (by
       refine XS.dup X49.here hx rfl (B d16_73) rfl rfl ?_
       exact XS.iconst X49.here hx rfl (B d16_74) k)
      obtain ⟨T53, h53, k53, X53, e53, Et53, A53, st53⟩ := newP X49 hx hZ0 (hw _ (mW 0 rfl)) e49 (g := (mkF m 75 #[rv a1, iv p1] [(.int 3), (.ref b49), (.ref b49)])) rfl (B d16_75) rfl (by decide) (cap := 3) (by decide) (by decide) (by decide) (by decide)
      obtain ⟨b53, g53⟩ : ∃ z, z = h49.size := ⟨_, rfl⟩
      rw [← g53] at A53 st53
      have g_b53 : n0 ≤ b53 := Nat.le_trans Z51 (Nat.le_of_eq g53.symm)
      have sz_b53 : h0.size ≤ b53 := Nat.le_trans K51.1 (Nat.le_of_eq g53.symm)
      have sfn_b53 : Safe Z [("com/example/picketline/picketline/protocol/Protocol", 37), ("com/example/picketline/picketline/protocol/ProtocolNamedPinLaw", 20), ("com/example/picketline/picketline/protocol/ProtocolNamedPinLaw", 42), ("java/lang/String", 7)] s.vm h49 b53 := Safe.new (Nat.le_of_eq g53.symm)
      have ne_a1_b53 : a1 ≠ b53 := Nat.ne_of_lt (Nat.lt_of_lt_of_le (V1.ext Et49).lt (Nat.le_of_eq g53.symm))
      have ne_b49_b53 : b49 ≠ b53 := Nat.ne_of_lt (Nat.lt_of_lt_of_le A49.lt (Nat.le_of_eq g53.symm))
      have pre54 : Go p e bl T53 (mkF m 77 #[rv a1, iv p1] [(.ref b53), (.ref b49), (.ref b49)]) s1 EF := fun t k => pre52 t (st53 t k)
      have O55 : Old Z n0 h53 := O51.ext Et53
      have Z55 : n0 ≤ h53.size := Nat.le_trans Z51 Et53.1
      have hk55 := Nat.le_trans hk51 Et53.1
      have C55 := CHv.ext Et53 C51
      have R55 := R51.trans (CHr.ext Et53 C51)
      have sf55_b49 := Safe.ext Et53 C51 sf51_b49
      have sf55_b53 := Safe.ext Et53 C51 sfn_b53
      have K55 : Keep h0 h53 [] := K51.ext Et53
      have V53 : Arv Z h53 b53 k53 .char (3 : Int32) [(.int 0), (.int 0), (.int 0)] (.int 0) := (Arv.new A53 (by decide)).pad (pad_rep [] (.int 0) 3)
      have pre56 : Go p e bl T53 (mkF m 81 #[rv a1, iv p1] [(.int 0), (.ref a1), (.int 0), (.ref b53), (.ref b53), (.ref b49), (.ref b49)]) s1 EF := fun t k => pre54 t (by
       refine XS.dup X53.here hx rfl (B d16_77) rfl rfl ?_
       refine XS.iconst X53.here hx rfl (B d16_78) ?_
       refine XS.aloadN X53.here hx rfl (B d16_79) rfl rfl ?_
       exact XS.iconst X53.here hx rfl (B d16_80) k)
      obtain ⟨cl57, Ar57, q57, Sz57, M57, H57, G57⟩ := id ((V1.ext Et49).ext Et53)
      have hin57 := inb_of (j := (0 : Int32)) Sz57 ⟨by decide, by decide⟩
      have hat57 := Has.at (v := (.int c0)) H57 hin57 rfl
      have pre58 : Go p e bl T53 (mkF m 82 #[rv a1, iv p1] [(.int c0), (.int 0), (.ref b53), (.ref b53), (.ref b49), (.ref b49)]) s1 EF := fun t k => pre56 t (by
       exact X53.caload hx (j := 0) (v := (.int c0)) (hp e53 Ar57) (State.isArrayOf_alike hZ0.alike Ar57.2.1) Ar57.2.2 hin57 hat57 (g := (mkF m 81 #[rv a1, iv p1] [(.int 0), (.ref a1), (.int 0), (.ref b53), (.ref b53), (.ref b49), (.ref b49)])) rfl rfl (B d16_81) _ k)
      obtain ⟨cl59, Ar59, q59, Sz59, M59, H59, G59⟩ := id V53
      have hin59 := inb_of (j := (0 : Int32)) Sz59 ⟨by decide, by decide⟩
      obtain ⟨T59, h59, X59, e59, W59, st59⟩ := stC X53 hx hZ0 e53 Ar59 (j := 0) hin59 (g := (mkF m 82 #[rv a1, iv p1] [(.int c0), (.int 0), (.ref b53), (.ref b53), (.ref b49), (.ref b49)])) rfl rfl (B d16_82)
      rw [rc0.nc] at W59
      have pre60 : Go p e bl T59 (mkF m 83 #[rv a1, iv p1] [(.ref b53), (.ref b49), (.ref b49)]) s1 EF := fun t k => pre58 t (st59 t k)
      have O61 : Old Z n0 h59 := O55.wr W59 g_b53
      have Z61 : n0 ≤ h59.size := Nat.le_trans Z55 (Keep.of_wr W59).1
      have hk61 := Nat.le_trans hk55 (Keep.of_wr W59).1
      have C61 := CHv.wr W59 sf55_b53 C55
      have R61 := R55.trans (CHr.wr W59 sf55_b53 C55)
      have sf61_b49 := Safe.wr W59 sf55_b53 C55 sf55_b49
      have sf61_b53 := Safe.wr W59 sf55_b53 C55 sf55_b53
      have K61 : Keep h0 h59 [] := K55.wr W59 (Or.inr sz_b53)
      have V59 : Arv Z h59 b53 k53 .char (3 : Int32) [(.int c0), (.int 0), (.int 0)] (.int 0) := Arv.set Ar59 q59 Sz59 M59 H59 G59 (own_fitc rc0.nc) W59 0 rfl (wl rfl)
      have N59 := Fr.snoc X59 N0 g_b53
      have pre62 : Go p e bl T59 (mkF m 87 #[rv a1, iv p1] [(.int 1), (.ref a1), (.int 1), (.ref b53), (.ref b53), (.ref b49), (.ref b49)]) s1 EF := fun t k => pre60 t (by
       refine XS.dup X59.here hx rfl (B d16_83) rfl rfl ?_
       refine XS.iconst X59.here hx rfl (B d16_84) ?_
       refine XS.aloadN X59.here hx rfl (B d16_85) rfl rfl ?_
       exact XS.iconst X59.here hx rfl (B d16_86) k)
      obtain ⟨cl63, Ar63, q63, Sz63, M63, H63, G63⟩ := id (((V1.ext Et49).ext Et53).other W59 ne_a1_b53)
      have hin63 := inb_of (j := (1 : Int32)) Sz63 ⟨by decide, by decide⟩
      have hat63 := Has.at (v := (.int c1)) H63 hin63 rfl
      have pre64 : Go p e bl T59 (mkF m 88 #[rv a1, iv p1] [(.int c1), (.int 1), (.ref b53), (.ref b53), (.ref b49), (.ref b49)]) s1 EF := fun t k => pre62 t (by
       exact X59.caload hx (j := 1) (v := (.int c1)) (hp e59 Ar63) (State.isArrayOf_alike hZ0.alike Ar63.2.1) Ar63.2.2 hin63 hat63 (g := (mkF m 87 #[rv a1, iv p1] [(.int 1), (.ref a1), (.int 1), (.ref b53), (.ref b53), (.ref b49), (.ref b49)])) rfl rfl (B d16_87) _ k)
      obtain ⟨cl65, Ar65, q65, Sz65, M65, H65, G65⟩ := id V59
      have hin65 := inb_of (j := (1 : Int32)) Sz65 ⟨by decide, by decide⟩
      obtain ⟨T65, h65, X65, e65, W65, st65⟩ := stC X59 hx hZ0 e59 Ar65 (j := 1) hin65 (g := (mkF m 88 #[rv a1, iv p1] [(.int c1), (.int 1), (.ref b53), (.ref b53), (.ref b49), (.ref b49)])) rfl rfl (B d16_88)
      rw [rc1.nc] at W65
      have pre66 : Go p e bl T65 (mkF m 89 #[rv a1, iv p1] [(.ref b53), (.ref b49), (.ref b49)]) s1 EF := fun t k => pre64 t (st65 t k)
      have O67 : Old Z n0 h65 := O61.wr W65 g_b53
      have Z67 : n0 ≤ h65.size := Nat.le_trans Z61 (Keep.of_wr W65).1
      have hk67 := Nat.le_trans hk61 (Keep.of_wr W65).1
      have C67 := CHv.wr W65 sf61_b53 C61
      have R67 := R61.trans (CHr.wr W65 sf61_b53 C61)
      have sf67_b49 := Safe.wr W65 sf61_b53 C61 sf61_b49
      have sf67_b53 := Safe.wr W65 sf61_b53 C61 sf61_b53
      have K67 : Keep h0 h65 [] := K61.wr W65 (Or.inr sz_b53)
      have V65 : Arv Z h65 b53 k53 .char (3 : Int32) [(.int c0), (.int c1), (.int 0)] (.int 0) := Arv.set Ar65 q65 Sz65 M65 H65 G65 (own_fitc rc1.nc) W65 1 rfl (wl rfl)
      have N65 := Fr.snoc X65 N59 g_b53
      have pre68 : Go p e bl T65 (mkF m 93 #[rv a1, iv p1] [(.int 2), (.ref a1), (.int 2), (.ref b53), (.ref b53), (.ref b49), (.ref b49)]) s1 EF := fun t k => pre66 t (by
       refine XS.dup X65.here hx rfl (B d16_89) rfl rfl ?_
       refine XS.iconst X65.here hx rfl (B d16_90) ?_
       refine XS.aloadN X65.here hx rfl (B d16_91) rfl rfl ?_
       exact XS.iconst X65.here hx rfl (B d16_92) k)
      obtain ⟨cl69, Ar69, q69, Sz69, M69, H69, G69⟩ := id ((((V1.ext Et49).ext Et53).other W59 ne_a1_b53).other W65 ne_a1_b53)
      have hin69 := inb_of (j := (2 : Int32)) Sz69 ⟨by decide, by decide⟩
      have hat69 := Has.at (v := (.int c2)) H69 hin69 rfl
      have pre70 : Go p e bl T65 (mkF m 94 #[rv a1, iv p1] [(.int c2), (.int 2), (.ref b53), (.ref b53), (.ref b49), (.ref b49)]) s1 EF := fun t k => pre68 t (by
       exact X65.caload hx (j := 2) (v := (.int c2)) (hp e65 Ar69) (State.isArrayOf_alike hZ0.alike Ar69.2.1) Ar69.2.2 hin69 hat69 (g := (mkF m 93 #[rv a1, iv p1] [(.int 2), (.ref a1), (.int 2), (.ref b53), (.ref b53), (.ref b49), (.ref b49)])) rfl rfl (B d16_93) _ k)
      obtain ⟨cl71, Ar71, q71, Sz71, M71, H71, G71⟩ := id V65
      have hin71 := inb_of (j := (2 : Int32)) Sz71 ⟨by decide, by decide⟩
      obtain ⟨T71, h71, X71, e71, W71, st71⟩ := stC X65 hx hZ0 e65 Ar71 (j := 2) hin71 (g := (mkF m 94 #[rv a1, iv p1] [(.int c2), (.int 2), (.ref b53), (.ref b53), (.ref b49), (.ref b49)])) rfl rfl (B d16_94)
      rw [rc2.nc] at W71
      have pre72 : Go p e bl T71 (mkF m 95 #[rv a1, iv p1] [(.ref b53), (.ref b49), (.ref b49)]) s1 EF := fun t k => pre70 t (st71 t k)
      have O73 : Old Z n0 h71 := O67.wr W71 g_b53
      have Z73 : n0 ≤ h71.size := Nat.le_trans Z67 (Keep.of_wr W71).1
      have hk73 := Nat.le_trans hk67 (Keep.of_wr W71).1
      have C73 := CHv.wr W71 sf67_b53 C67
      have R73 := R67.trans (CHr.wr W71 sf67_b53 C67)
      have sf73_b49 := Safe.wr W71 sf67_b53 C67 sf67_b49
      have sf73_b53 := Safe.wr W71 sf67_b53 C67 sf67_b53
      have K73 : Keep h0 h71 [] := K67.wr W71 (Or.inr sz_b53)
      have V71 : Arv Z h71 b53 k53 .char (3 : Int32) [(.int c0), (.int c1), (.int c2)] (.int 0) := Arv.set Ar71 q71 Sz71 M71 H71 G71 (own_fitc rc2.nc) W71 2 rfl (wl rfl)
      have N71 := Fr.snoc X71 N65 g_b53
      obtain ⟨_, _, ⟨T74, L74, k74, n74⟩, -, X74, ⟨Lc74, hQ74, l74, y74, z74⟩, st74⟩ := X71.specialBack hx (y := mN6) rfl hown0 (mvT hZ0 (hw _ (mW 8 rfl))) (mvT hZ0 (hw _ (mW 9 rfl))) (mvT hZ0 (hw _ (mW 10 rfl))) (by decide) (backOf (W := 1) (rmKj l Z a0 hw [] b49 b53 cz fv (3 : Int32) k53 [c0, c1, c2] h71 n0 Z73 O73 J0 ((((A49.ext Et53).wr W59).wr W65).wr W71) g_b49 (Fld.other W71 (Fld.other W65 (Fld.other W59 (F_value_b49.ext Et53) (Or.inl ne_b49_b53)) (Or.inl ne_b49_b53)) (Or.inl ne_b49_b53)) (Fld.other W71 (Fld.other W65 (Fld.other W59 (F_coder_b49.ext Et53) (Or.inl ne_b49_b53)) (Or.inl ne_b49_b53)) (Or.inl ne_b49_b53)) V71 (by decide) rfl (wl rfl) (wl rfl) (List.forall_mem_cons.mpr ⟨rc0.le, (List.forall_mem_cons.mpr ⟨rc1.le, (List.forall_mem_cons.mpr ⟨rc2.le, (fun _ q => nomatch q)⟩)⟩)⟩)) hZ0 (hw _ (mW 10 rfl)) (hw _ (mW 7 rfl)) (by decide) (by decide)) (g := (mkF m 95 #[rv a1, iv p1] [(.ref b53), (.ref b49), (.ref b49)])) rfl (hM rfl) (Steps.refl _) (a := b49) (argsL := [(.ref b53)]) (rest := [(.ref b49)]) (lenOf pd12 rfl) rfl (Nat.le_of_eq rfl) (B d16_95) (fun _ _ => ⟨rfl, e71, wl rfl, wl rfl⟩)
      dsimp only [Pt.U, Pt.locs, Pt.cells, Pt.slots] at X74 l74 y74 z74 st74 hQ74
      subst l74 y74 z74
      obtain ⟨rfl, N74q, K74, bv74, kb74, hsz74, SF74⟩ := hQ74
      have N74 := Fr.app N71 N74q
      have pre75 : Go p e bl T74 (mkF m 98 #[rv a1, iv p1] [(.ref b49)]) s1 EF := fun t k => pre72 t (st74.trans k)
      have O76 : Old Z n0 T74.heap := O73.keep K74 (allS g_b49 all0)
      have Z76 : n0 ≤ T74.heap.size := Nat.le_trans Z73 K74.1
      have hk76 := Nat.le_trans hk73 K74.1
      have C76 := CHv.keep K74 (sfS sf73_b49 sf0) C73
      have R76 := R73.trans (CHr.keep K74 (sfS sf73_b49 sf0) C73)
      have sf76_b49 := Safe.keep K74 (sfS sf73_b49 sf0) C73 sf73_b49
      have sf76_b53 := Safe.keep K74 (sfS sf73_b49 sf0) C73 sf73_b53
      have K76 : Keep h0 T74.heap [] := K73.trans K74 (allS (Or.inr sz_b49) all0)
      obtain ⟨fs, hr, hrun, hended, hend1, hend2, hend3, hsame⟩ := X74.leaveW hS0 hk76 (v := some (.ref b49)) (fun h => by rw [Bd.returns] at h; cases h)
      have hCH : CHr Z [("com/example/picketline/picketline/protocol/Protocol", 37), ("com/example/picketline/picketline/protocol/ProtocolNamedPinLaw", 20), ("com/example/picketline/picketline/protocol/ProtocolNamedPinLaw", 42), ("java/lang/String", 7)] s.vm s.heap T74.vm T74.heap := by rw [hh]; exact R76.trans (CHv.at X74 hZ0 (own_EW hw) C76)
      refine ⟨_, _, hEF ▸ pre75 _ (retOut X74 hx Bd.returns rfl (Or.inr (Or.inr (Or.inr (Or.inr ⟨rfl, rfl, rfl⟩)))) (B d16_98) hr), hrun, hended, _, _, rfl, ?_, hCH, hend1, hend2, hend3, hsame.mono (by decide) (by decide)⟩
      show QPx Z a1 p1 cz fv kc c0 c1 c2 c3 c4 c5 c6 c7 c8 c9 h0 n0 _ T74.heap _
      exact ⟨_, _, _, _, _, rfl, N74, K76, sz_b49, SF74, by rfl⟩
    have pre77 : Go p e bl s1 (mkF m 99 #[rv a1, iv p1] []) s1 EF := fun t k => pre47 t (XS.icmpYes X0.here hx rfl (pc0 := 67) (pc' := 99) rfl (B d16_67) rfl (feq hc67).2 (by decide) (by decide) k)
    have pre78 : Go p e bl s1 (mkF m 101 #[rv a1, iv p1] [(.int 4), (.int p1)]) s1 EF := fun t k => pre77 t (by
     refine XS.iloadN X0.here hx rfl (B d16_99) rfl ?_
     exact XS.iconst X0.here hx rfl (B d16_100) k)
    by_cases hc101 : p1 = (4 : Int32)
    · have pre79 : Go p e bl s1 (mkF m 104 #[rv a1, iv p1] []) s1 EF := fun t k => pre78 t (XS.icmpNo X0.here hx rfl (B d16_101) rfl (teq hc101).2 k)
      obtain ⟨T80, h80, X80, e80, Et80, A80, D80, U80, st80⟩ := newO X0 hx hZ0 hown0 (hw _ (mW 5 rfl)) (hw _ (mW 6 rfl)) (hw _ (mW 7 rfl)) e0 (g := (mkF m 104 #[rv a1, iv p1] [])) rfl (B d16_104) (by decide) (by decide)
      obtain ⟨b80, g80⟩ : ∃ z, z = h0.size := ⟨_, rfl⟩
      rw [← g80] at A80 st80 D80
      have g_b80 : n0 ≤ b80 := Nat.le_trans Z0 (Nat.le_of_eq g80.symm)
      have sz_b80 : h0.size ≤ b80 := Nat.le_trans (Keep.refl h0 []).1 (Nat.le_of_eq g80.symm)
      have sfn_b80 : Safe Z [("com/example/picketline/picketline/protocol/Protocol", 37), ("com/example/picketline/picketline/protocol/ProtocolNamedPinLaw", 20), ("com/example/picketline/picketline/protocol/ProtocolNamedPinLaw", 42), ("java/lang/String", 7)] s.vm h0 b80 := Safe.new (Nat.le_of_eq g80.symm)
      have ne_a1_b80 : a1 ≠ b80 := Nat.ne_of_lt (Nat.lt_of_lt_of_le V1.lt (Nat.le_of_eq g80.symm))
      have pre81 : Go p e bl T80 (mkF m 107 #[rv a1, iv p1] [(.ref b80)]) s1 EF := fun t k => pre79 t (st80 t k)
      have O82 : Old Z n0 h80 := O0.ext Et80
      have Z82 : n0 ≤ h80.size := Nat.le_trans Z0 Et80.1
      have hk82 := Nat.le_trans hk0 Et80.1
      have C82 := CHv.ext Et80 hC
      have R82 := (CHr.refl hC).trans (CHr.ext Et80 hC)
      have sf82_b80 := Safe.ext Et80 hC sfn_b80
      have K82 : Keep h0 h80 [] := (Keep.refl h0 []).ext Et80
      have F_coder_b80 : Fld Z h80 b80 "java/lang/String" "coder" "B" (.int 0) := D80 (Or.inr (hw _ (mW 31 rfl))) (ty := .byte) (by decide)
      have F_value_b80 : Fld Z h80 b80 "java/lang/String" "value" "[B" .null := D80 (Or.inr (hw _ (mW 33 rfl))) (ty := (.array .byte)) (by decide)
      have pre83 : Go p e bl T80 (mkF m 109 #[rv a1, iv p1] [(.int 4), (.ref b80), (.ref b80)]) s1 EF := fun t k => pre81 t (by
       refine XS.dup X80.here hx rfl (B d16_107) rfl rfl ?_
       exact XS.iconst X80.here hx rfl (B d16_108) k)
      obtain ⟨T84, h84, k84, X84, e84, Et84, A84, st84⟩ := newP X80 hx hZ0 (hw _ (mW 0 rfl)) e80 (g := (mkF m 109 #[rv a1, iv p1] [(.int 4), (.ref b80), (.ref b80)])) rfl (B d16_109) rfl (by decide) (cap := 4) (by decide) (by decide) (by decide) (by decide)
      obtain ⟨b84, g84⟩ : ∃ z, z = h80.size := ⟨_, rfl⟩
      rw [← g84] at A84 st84
      have g_b84 : n0 ≤ b84 := Nat.le_trans Z82 (Nat.le_of_eq g84.symm)
      have sz_b84 : h0.size ≤ b84 := Nat.le_trans K82.1 (Nat.le_of_eq g84.symm)
      have sfn_b84 : Safe Z [("com/example/picketline/picketline/protocol/Protocol", 37), ("com/example/picketline/picketline/protocol/ProtocolNamedPinLaw", 20), ("com/example/picketline/picketline/protocol/ProtocolNamedPinLaw", 42), ("java/lang/String", 7)] s.vm h80 b84 := Safe.new (Nat.le_of_eq g84.symm)
      have ne_a1_b84 : a1 ≠ b84 := Nat.ne_of_lt (Nat.lt_of_lt_of_le (V1.ext Et80).lt (Nat.le_of_eq g84.symm))
      have ne_b80_b84 : b80 ≠ b84 := Nat.ne_of_lt (Nat.lt_of_lt_of_le A80.lt (Nat.le_of_eq g84.symm))
      have pre85 : Go p e bl T84 (mkF m 111 #[rv a1, iv p1] [(.ref b84), (.ref b80), (.ref b80)]) s1 EF := fun t k => pre83 t (st84 t k)
      have O86 : Old Z n0 h84 := O82.ext Et84
      have Z86 : n0 ≤ h84.size := Nat.le_trans Z82 Et84.1
      have hk86 := Nat.le_trans hk82 Et84.1
      have C86 := CHv.ext Et84 C82
      have R86 := R82.trans (CHr.ext Et84 C82)
      have sf86_b80 := Safe.ext Et84 C82 sf82_b80
      have sf86_b84 := Safe.ext Et84 C82 sfn_b84
      have K86 : Keep h0 h84 [] := K82.ext Et84
      have V84 : Arv Z h84 b84 k84 .char (4 : Int32) [(.int 0), (.int 0), (.int 0), (.int 0)] (.int 0) := (Arv.new A84 (by decide)).pad (pad_rep [] (.int 0) 4)
      have pre87 : Go p e bl T84 (mkF m 115 #[rv a1, iv p1] [(.int 0), (.ref a1), (.int 0), (.ref b84), (.ref b84), (.ref b80), (.ref b80)]) s1 EF := fun t k => pre85 t (by
       refine XS.dup X84.here hx rfl (B d16_111) rfl rfl ?_
       refine XS.iconst X84.here hx rfl (B d16_112) ?_
       refine XS.aloadN X84.here hx rfl (B d16_113) rfl rfl ?_
       exact XS.iconst X84.here hx rfl (B d16_114) k)
      obtain ⟨cl88, Ar88, q88, Sz88, M88, H88, G88⟩ := id ((V1.ext Et80).ext Et84)
      have hin88 := inb_of (j := (0 : Int32)) Sz88 ⟨by decide, by decide⟩
      have hat88 := Has.at (v := (.int c0)) H88 hin88 rfl
      have pre89 : Go p e bl T84 (mkF m 116 #[rv a1, iv p1] [(.int c0), (.int 0), (.ref b84), (.ref b84), (.ref b80), (.ref b80)]) s1 EF := fun t k => pre87 t (by
       exact X84.caload hx (j := 0) (v := (.int c0)) (hp e84 Ar88) (State.isArrayOf_alike hZ0.alike Ar88.2.1) Ar88.2.2 hin88 hat88 (g := (mkF m 115 #[rv a1, iv p1] [(.int 0), (.ref a1), (.int 0), (.ref b84), (.ref b84), (.ref b80), (.ref b80)])) rfl rfl (B d16_115) _ k)
      obtain ⟨cl90, Ar90, q90, Sz90, M90, H90, G90⟩ := id V84
      have hin90 := inb_of (j := (0 : Int32)) Sz90 ⟨by decide, by decide⟩
      obtain ⟨T90, h90, X90, e90, W90, st90⟩ := stC X84 hx hZ0 e84 Ar90 (j := 0) hin90 (g := (mkF m 116 #[rv a1, iv p1] [(.int c0), (.int 0), (.ref b84), (.ref b84), (.ref b80), (.ref b80)])) rfl rfl (B d16_116)
      rw [rc0.nc] at W90
      have pre91 : Go p e bl T90 (mkF m 117 #[rv a1, iv p1] [(.ref b84), (.ref b80), (.ref b80)]) s1 EF := fun t k => pre89 t (st90 t k)
      have O92 : Old Z n0 h90 := O86.wr W90 g_b84
      have Z92 : n0 ≤ h90.size := Nat.le_trans Z86 (Keep.of_wr W90).1
      have hk92 := Nat.le_trans hk86 (Keep.of_wr W90).1
      have C92 := CHv.wr W90 sf86_b84 C86
      have R92 := R86.trans (CHr.wr W90 sf86_b84 C86)
      have sf92_b80 := Safe.wr W90 sf86_b84 C86 sf86_b80
      have sf92_b84 := Safe.wr W90 sf86_b84 C86 sf86_b84
      have K92 : Keep h0 h90 [] := K86.wr W90 (Or.inr sz_b84)
      have V90 : Arv Z h90 b84 k84 .char (4 : Int32) [(.int c0), (.int 0), (.int 0), (.int 0)] (.int 0) := Arv.set Ar90 q90 Sz90 M90 H90 G90 (own_fitc rc0.nc) W90 0 rfl (wl rfl)
      have N90 := Fr.snoc X90 N0 g_b84
      have pre93 : Go p e bl T90 (mkF m 121 #[rv a1, iv p1] [(.int 1), (.ref a1), (.int 1), (.ref b84), (.ref b84), (.ref b80), (.ref b80)]) s1 EF := fun t k => pre91 t (by
       refine XS.dup X90.here hx rfl (B d16_117) rfl rfl ?_
       refine XS.iconst X90.here hx rfl (B d16_118) ?_
       refine XS.aloadN X90.here hx rfl (B d16_119) rfl rfl ?_
       exact XS.iconst X90.here hx rfl (B d16_120) k)
      obtain ⟨cl94, Ar94, q94, Sz94, M94, H94, G94⟩ := id (((V1.ext Et80).ext Et84).other W90 ne_a1_b84)
      have hin94 := inb_of (j := (1 : Int32)) Sz94 ⟨by decide, by decide⟩
      have hat94 := Has.at (v := (.int c1)) H94 hin94 rfl
      have pre95 : Go p e bl T90 (mkF m 122 #[rv a1, iv p1] [(.int c1), (.int 1), (.ref b84), (.ref b84), (.ref b80), (.ref b80)]) s1 EF := fun t k => pre93 t (by
       exact X90.caload hx (j := 1) (v := (.int c1)) (hp e90 Ar94) (State.isArrayOf_alike hZ0.alike Ar94.2.1) Ar94.2.2 hin94 hat94 (g := (mkF m 121 #[rv a1, iv p1] [(.int 1), (.ref a1), (.int 1), (.ref b84), (.ref b84), (.ref b80), (.ref b80)])) rfl rfl (B d16_121) _ k)
      obtain ⟨cl96, Ar96, q96, Sz96, M96, H96, G96⟩ := id V90
      have hin96 := inb_of (j := (1 : Int32)) Sz96 ⟨by decide, by decide⟩
      obtain ⟨T96, h96, X96, e96, W96, st96⟩ := stC X90 hx hZ0 e90 Ar96 (j := 1) hin96 (g := (mkF m 122 #[rv a1, iv p1] [(.int c1), (.int 1), (.ref b84), (.ref b84), (.ref b80), (.ref b80)])) rfl rfl (B d16_122)
      rw [rc1.nc] at W96
      have pre97 : Go p e bl T96 (mkF m 123 #[rv a1, iv p1] [(.ref b84), (.ref b80), (.ref b80)]) s1 EF := fun t k => pre95 t (st96 t k)
      have O98 : Old Z n0 h96 := O92.wr W96 g_b84
      have Z98 : n0 ≤ h96.size := Nat.le_trans Z92 (Keep.of_wr W96).1
      have hk98 := Nat.le_trans hk92 (Keep.of_wr W96).1
      have C98 := CHv.wr W96 sf92_b84 C92
      have R98 := R92.trans (CHr.wr W96 sf92_b84 C92)
      have sf98_b80 := Safe.wr W96 sf92_b84 C92 sf92_b80
      have sf98_b84 := Safe.wr W96 sf92_b84 C92 sf92_b84
      have K98 : Keep h0 h96 [] := K92.wr W96 (Or.inr sz_b84)
      have V96 : Arv Z h96 b84 k84 .char (4 : Int32) [(.int c0), (.int c1), (.int 0), (.int 0)] (.int 0) := Arv.set Ar96 q96 Sz96 M96 H96 G96 (own_fitc rc1.nc) W96 1 rfl (wl rfl)
      have N96 := Fr.snoc X96 N90 g_b84
      have pre99 : Go p e bl T96 (mkF m 127 #[rv a1, iv p1] [(.int 2), (.ref a1), (.int 2), (.ref b84), (.ref b84), (.ref b80), (.ref b80)]) s1 EF := fun t k => pre97 t (by
       refine XS.dup X96.here hx rfl (B d16_123) rfl rfl ?_
       refine XS.iconst X96.here hx rfl (B d16_124) ?_
       refine XS.aloadN X96.here hx rfl (B d16_125) rfl rfl ?_
       exact XS.iconst X96.here hx rfl (B d16_126) k)
      obtain ⟨cl100, Ar100, q100, Sz100, M100, H100, G100⟩ := id ((((V1.ext Et80).ext Et84).other W90 ne_a1_b84).other W96 ne_a1_b84)
      have hin100 := inb_of (j := (2 : Int32)) Sz100 ⟨by decide, by decide⟩
      have hat100 := Has.at (v := (.int c2)) H100 hin100 rfl
      have pre101 : Go p e bl T96 (mkF m 128 #[rv a1, iv p1] [(.int c2), (.int 2), (.ref b84), (.ref b84), (.ref b80), (.ref b80)]) s1 EF := fun t k => pre99 t (by
       exact X96.caload hx (j := 2) (v := (.int c2)) (hp e96 Ar100) (State.isArrayOf_alike hZ0.alike Ar100.2.1) Ar100.2.2 hin100 hat100 (g := (mkF m 127 #[rv a1, iv p1] [(.int 2), (.ref a1), (.int 2), (.ref b84), (.ref b84), (.ref b80), (.ref b80)])) rfl rfl (B d16_127) _ k)
      obtain ⟨cl102, Ar102, q102, Sz102, M102, H102, G102⟩ := id V96
      have hin102 := inb_of (j := (2 : Int32)) Sz102 ⟨by decide, by decide⟩
      obtain ⟨T102, h102, X102, e102, W102, st102⟩ := stC X96 hx hZ0 e96 Ar102 (j := 2) hin102 (g := (mkF m 128 #[rv a1, iv p1] [(.int c2), (.int 2), (.ref b84), (.ref b84), (.ref b80), (.ref b80)])) rfl rfl (B d16_128)
      rw [rc2.nc] at W102
      have pre103 : Go p e bl T102 (mkF m 129 #[rv a1, iv p1] [(.ref b84), (.ref b80), (.ref b80)]) s1 EF := fun t k => pre101 t (st102 t k)
      have O104 : Old Z n0 h102 := O98.wr W102 g_b84
      have Z104 : n0 ≤ h102.size := Nat.le_trans Z98 (Keep.of_wr W102).1
      have hk104 := Nat.le_trans hk98 (Keep.of_wr W102).1
      have C104 := CHv.wr W102 sf98_b84 C98
      have R104 := R98.trans (CHr.wr W102 sf98_b84 C98)
      have sf104_b80 := Safe.wr W102 sf98_b84 C98 sf98_b80
      have sf104_b84 := Safe.wr W102 sf98_b84 C98 sf98_b84
      have K104 : Keep h0 h102 [] := K98.wr W102 (Or.inr sz_b84)
      have V102 : Arv Z h102 b84 k84 .char (4 : Int32) [(.int c0), (.int c1), (.int c2), (.int 0)] (.int 0) := Arv.set Ar102 q102 Sz102 M102 H102 G102 (own_fitc rc2.nc) W102 2 rfl (wl rfl)
      have N102 := Fr.snoc X102 N96 g_b84
      have pre105 : Go p e bl T102 (mkF m 133 #[rv a1, iv p1] [(.int 3), (.ref a1), (.int 3), (.ref b84), (.ref b84), (.ref b80), (.ref b80)]) s1 EF := fun t k => pre103 t (by
       refine XS.dup X102.here hx rfl (B d16_129) rfl rfl ?_
       refine XS.iconst X102.here hx rfl (B d16_130) ?_
       refine XS.aloadN X102.here hx rfl (B d16_131) rfl rfl ?_
       exact XS.iconst X102.here hx rfl (B d16_132) k)
      obtain ⟨cl106, Ar106, q106, Sz106, M106, H106, G106⟩ := id (((((V1.ext Et80).ext Et84).other W90 ne_a1_b84).other W96 ne_a1_b84).other W102 ne_a1_b84)
      have hin106 := inb_of (j := (3 : Int32)) Sz106 ⟨by decide, by decide⟩
      have hat106 := Has.at (v := (.int c3)) H106 hin106 rfl
      have pre107 : Go p e bl T102 (mkF m 134 #[rv a1, iv p1] [(.int c3), (.int 3), (.ref b84), (.ref b84), (.ref b80), (.ref b80)]) s1 EF := fun t k => pre105 t (by
       exact X102.caload hx (j := 3) (v := (.int c3)) (hp e102 Ar106) (State.isArrayOf_alike hZ0.alike Ar106.2.1) Ar106.2.2 hin106 hat106 (g := (mkF m 133 #[rv a1, iv p1] [(.int 3), (.ref a1), (.int 3), (.ref b84), (.ref b84), (.ref b80), (.ref b80)])) rfl rfl (B d16_133) _ k)
      obtain ⟨cl108, Ar108, q108, Sz108, M108, H108, G108⟩ := id V102
      have hin108 := inb_of (j := (3 : Int32)) Sz108 ⟨by decide, by decide⟩
      obtain ⟨T108, h108, X108, e108, W108, st108⟩ := stC X102 hx hZ0 e102 Ar108 (j := 3) hin108 (g := (mkF m 134 #[rv a1, iv p1] [(.int c3), (.int 3), (.ref b84), (.ref b84), (.ref b80), (.ref b80)])) rfl rfl (B d16_134)
      rw [rc3.nc] at W108
      have pre109 : Go p e bl T108 (mkF m 135 #[rv a1, iv p1] [(.ref b84), (.ref b80), (.ref b80)]) s1 EF := fun t k => pre107 t (st108 t k)
      have O110 : Old Z n0 h108 := O104.wr W108 g_b84
      have Z110 : n0 ≤ h108.size := Nat.le_trans Z104 (Keep.of_wr W108).1
      have hk110 := Nat.le_trans hk104 (Keep.of_wr W108).1
      have C110 := CHv.wr W108 sf104_b84 C104
      have R110 := R104.trans (CHr.wr W108 sf104_b84 C104)
      have sf110_b80 := Safe.wr W108 sf104_b84 C104 sf104_b80
      have sf110_b84 := Safe.wr W108 sf104_b84 C104 sf104_b84
      have K110 : Keep h0 h108 [] := K104.wr W108 (Or.inr sz_b84)
      have V108 : Arv Z h108 b84 k84 .char (4 : Int32) [(.int c0), (.int c1), (.int c2), (.int c3)] (.int 0) := Arv.set Ar108 q108 Sz108 M108 H108 G108 (own_fitc rc3.nc) W108 3 rfl (wl rfl)
      have N108 := Fr.snoc X108 N102 g_b84
      obtain ⟨_, _, ⟨T111, L111, k111, n111⟩, -, X111, ⟨Lc111, hQ111, l111, y111, z111⟩, st111⟩ := X108.specialBack hx (y := mN6) rfl hown0 (mvT hZ0 (hw _ (mW 8 rfl))) (mvT hZ0 (hw _ (mW 9 rfl))) (mvT hZ0 (hw _ (mW 10 rfl))) (by decide) (backOf (W := 1) (rmKj l Z a0 hw [] b80 b84 cz fv (4 : Int32) k84 [c0, c1, c2, c3] h108 n0 Z110 O110 J0 (((((A80.ext Et84).wr W90).wr W96).wr W102).wr W108) g_b80 (Fld.other W108 (Fld.other W102 (Fld.other W96 (Fld.other W90 (F_value_b80.ext Et84) (Or.inl ne_b80_b84)) (Or.inl ne_b80_b84)) (Or.inl ne_b80_b84)) (Or.inl ne_b80_b84)) (Fld.other W108 (Fld.other W102 (Fld.other W96 (Fld.other W90 (F_coder_b80.ext Et84) (Or.inl ne_b80_b84)) (Or.inl ne_b80_b84)) (Or.inl ne_b80_b84)) (Or.inl ne_b80_b84)) V108 (by decide) rfl (wl rfl) (wl rfl) (List.forall_mem_cons.mpr ⟨rc0.le, (List.forall_mem_cons.mpr ⟨rc1.le, (List.forall_mem_cons.mpr ⟨rc2.le, (List.forall_mem_cons.mpr ⟨rc3.le, (fun _ q => nomatch q)⟩)⟩)⟩)⟩)) hZ0 (hw _ (mW 10 rfl)) (hw _ (mW 7 rfl)) (by decide) (by decide)) (g := (mkF m 135 #[rv a1, iv p1] [(.ref b84), (.ref b80), (.ref b80)])) rfl (hM rfl) (Steps.refl _) (a := b80) (argsL := [(.ref b84)]) (rest := [(.ref b80)]) (lenOf pd12 rfl) rfl (Nat.le_of_eq rfl) (B d16_135) (fun _ _ => ⟨rfl, e108, wl rfl, wl rfl⟩)
      dsimp only [Pt.U, Pt.locs, Pt.cells, Pt.slots] at X111 l111 y111 z111 st111 hQ111
      subst l111 y111 z111
      obtain ⟨rfl, N111q, K111, bv111, kb111, hsz111, SF111⟩ := hQ111
      have N111 := Fr.app N108 N111q
      have pre112 : Go p e bl T111 (mkF m 138 #[rv a1, iv p1] [(.ref b80)]) s1 EF := fun t k => pre109 t (st111.trans k)
      have O113 : Old Z n0 T111.heap := O110.keep K111 (allS g_b80 all0)
      have Z113 : n0 ≤ T111.heap.size := Nat.le_trans Z110 K111.1
      have hk113 := Nat.le_trans hk110 K111.1
      have C113 := CHv.keep K111 (sfS sf110_b80 sf0) C110
      have R113 := R110.trans (CHr.keep K111 (sfS sf110_b80 sf0) C110)
      have sf113_b80 := Safe.keep K111 (sfS sf110_b80 sf0) C110 sf110_b80
      have sf113_b84 := Safe.keep K111 (sfS sf110_b80 sf0) C110 sf110_b84
      have K113 : Keep h0 T111.heap [] := K110.trans K111 (allS (Or.inr sz_b80) all0)
      obtain ⟨fs, hr, hrun, hended, hend1, hend2, hend3, hsame⟩ := X111.leaveW hS0 hk113 (v := some (.ref b80)) (fun h => by rw [Bd.returns] at h; cases h)
      have hCH : CHr Z [("com/example/picketline/picketline/protocol/Protocol", 37), ("com/example/picketline/picketline/protocol/ProtocolNamedPinLaw", 20), ("com/example/picketline/picketline/protocol/ProtocolNamedPinLaw", 42), ("java/lang/String", 7)] s.vm s.heap T111.vm T111.heap := by rw [hh]; exact R113.trans (CHv.at X111 hZ0 (own_EW hw) C113)
      refine ⟨_, _, hEF ▸ pre112 _ (retOut X111 hx Bd.returns rfl (Or.inr (Or.inr (Or.inr (Or.inr ⟨rfl, rfl, rfl⟩)))) (B d16_138) hr), hrun, hended, _, _, rfl, ?_, hCH, hend1, hend2, hend3, hsame.mono (by decide) (by decide)⟩
      show QPx Z a1 p1 cz fv kc c0 c1 c2 c3 c4 c5 c6 c7 c8 c9 h0 n0 _ T111.heap _
      exact ⟨_, _, _, _, _, rfl, N111, K113, sz_b80, SF111, by rfl⟩
    have pre114 : Go p e bl s1 (mkF m 139 #[rv a1, iv p1] []) s1 EF := fun t k => pre78 t (XS.icmpYes X0.here hx rfl (pc0 := 101) (pc' := 139) rfl (B d16_101) rfl (feq hc101).2 (by decide) (by decide) k)
    have pre115 : Go p e bl s1 (mkF m 141 #[rv a1, iv p1] [(.int 5), (.int p1)]) s1 EF := fun t k => pre114 t (by
     refine XS.iloadN X0.here hx rfl (B d16_139) rfl ?_
     exact XS.iconst X0.here hx rfl (B d16_140) k)
    by_cases hc141 : p1 = (5 : Int32)
    · have pre116 : Go p e bl s1 (mkF m 144 #[rv a1, iv p1] []) s1 EF := fun t k => pre115 t (XS.icmpNo X0.here hx rfl (B d16_141) rfl (teq hc141).2 k)
      obtain ⟨T117, h117, X117, e117, Et117, A117, D117, U117, st117⟩ := newO X0 hx hZ0 hown0 (hw _ (mW 5 rfl)) (hw _ (mW 6 rfl)) (hw _ (mW 7 rfl)) e0 (g := (mkF m 144 #[rv a1, iv p1] [])) rfl (B d16_144) (by decide) (by decide)
      obtain ⟨b117, g117⟩ : ∃ z, z = h0.size := ⟨_, rfl⟩
      rw [← g117] at A117 st117 D117
      have g_b117 : n0 ≤ b117 := Nat.le_trans Z0 (Nat.le_of_eq g117.symm)
      have sz_b117 : h0.size ≤ b117 := Nat.le_trans (Keep.refl h0 []).1 (Nat.le_of_eq g117.symm)
      have sfn_b117 : Safe Z [("com/example/picketline/picketline/protocol/Protocol", 37), ("com/example/picketline/picketline/protocol/ProtocolNamedPinLaw", 20), ("com/example/picketline/picketline/protocol/ProtocolNamedPinLaw", 42), ("java/lang/String", 7)] s.vm h0 b117 := Safe.new (Nat.le_of_eq g117.symm)
      have ne_a1_b117 : a1 ≠ b117 := Nat.ne_of_lt (Nat.lt_of_lt_of_le V1.lt (Nat.le_of_eq g117.symm))
      have pre118 : Go p e bl T117 (mkF m 147 #[rv a1, iv p1] [(.ref b117)]) s1 EF := fun t k => pre116 t (st117 t k)
      have O119 : Old Z n0 h117 := O0.ext Et117
      have Z119 : n0 ≤ h117.size := Nat.le_trans Z0 Et117.1
      have hk119 := Nat.le_trans hk0 Et117.1
      have C119 := CHv.ext Et117 hC
      have R119 := (CHr.refl hC).trans (CHr.ext Et117 hC)
      have sf119_b117 := Safe.ext Et117 hC sfn_b117
      have K119 : Keep h0 h117 [] := (Keep.refl h0 []).ext Et117
      have F_coder_b117 : Fld Z h117 b117 "java/lang/String" "coder" "B" (.int 0) := D117 (Or.inr (hw _ (mW 31 rfl))) (ty := .byte) (by decide)
      have F_value_b117 : Fld Z h117 b117 "java/lang/String" "value" "[B" .null := D117 (Or.inr (hw _ (mW 33 rfl))) (ty := (.array .byte)) (by decide)
      have pre120 : Go p e bl T117 (mkF m 149 #[rv a1, iv p1] [(.int 5), (.ref b117), (.ref b117)]) s1 EF := fun t k => pre118 t (by
       refine XS.dup X117.here hx rfl (B d16_147) rfl rfl ?_
       exact XS.iconst X117.here hx rfl (B d16_148) k)
      obtain ⟨T121, h121, k121, X121, e121, Et121, A121, st121⟩ := newP X117 hx hZ0 (hw _ (mW 0 rfl)) e117 (g := (mkF m 149 #[rv a1, iv p1] [(.int 5), (.ref b117), (.ref b117)])) rfl (B d16_149) rfl (by decide) (cap := 5) (by decide) (by decide) (by decide) (by decide)
      obtain ⟨b121, g121⟩ : ∃ z, z = h117.size := ⟨_, rfl⟩
      rw [← g121] at A121 st121
      have g_b121 : n0 ≤ b121 := Nat.le_trans Z119 (Nat.le_of_eq g121.symm)
      have sz_b121 : h0.size ≤ b121 := Nat.le_trans K119.1 (Nat.le_of_eq g121.symm)
      have sfn_b121 : Safe Z [("com/example/picketline/picketline/protocol/Protocol", 37), ("com/example/picketline/picketline/protocol/ProtocolNamedPinLaw", 20), ("com/example/picketline/picketline/protocol/ProtocolNamedPinLaw", 42), ("java/lang/String", 7)] s.vm h117 b121 := Safe.new (Nat.le_of_eq g121.symm)
      have ne_a1_b121 : a1 ≠ b121 := Nat.ne_of_lt (Nat.lt_of_lt_of_le (V1.ext Et117).lt (Nat.le_of_eq g121.symm))
      have ne_b117_b121 : b117 ≠ b121 := Nat.ne_of_lt (Nat.lt_of_lt_of_le A117.lt (Nat.le_of_eq g121.symm))
      have pre122 : Go p e bl T121 (mkF m 151 #[rv a1, iv p1] [(.ref b121), (.ref b117), (.ref b117)]) s1 EF := fun t k => pre120 t (st121 t k)
      have O123 : Old Z n0 h121 := O119.ext Et121
      have Z123 : n0 ≤ h121.size := Nat.le_trans Z119 Et121.1
      have hk123 := Nat.le_trans hk119 Et121.1
      have C123 := CHv.ext Et121 C119
      have R123 := R119.trans (CHr.ext Et121 C119)
      have sf123_b117 := Safe.ext Et121 C119 sf119_b117
      have sf123_b121 := Safe.ext Et121 C119 sfn_b121
      have K123 : Keep h0 h121 [] := K119.ext Et121
      have V121 : Arv Z h121 b121 k121 .char (5 : Int32) [(.int 0), (.int 0), (.int 0), (.int 0), (.int 0)] (.int 0) := (Arv.new A121 (by decide)).pad (pad_rep [] (.int 0) 5)
      have pre124 : Go p e bl T121 (mkF m 155 #[rv a1, iv p1] [(.int 0), (.ref a1), (.int 0), (.ref b121), (.ref b121), (.ref b117), (.ref b117)]) s1 EF := fun t k => pre122 t (by
       refine XS.dup X121.here hx rfl (B d16_151) rfl rfl ?_
       refine XS.iconst X121.here hx rfl (B d16_152) ?_
       refine XS.aloadN X121.here hx rfl (B d16_153) rfl rfl ?_
       exact XS.iconst X121.here hx rfl (B d16_154) k)
      obtain ⟨cl125, Ar125, q125, Sz125, M125, H125, G125⟩ := id ((V1.ext Et117).ext Et121)
      have hin125 := inb_of (j := (0 : Int32)) Sz125 ⟨by decide, by decide⟩
      have hat125 := Has.at (v := (.int c0)) H125 hin125 rfl
      have pre126 : Go p e bl T121 (mkF m 156 #[rv a1, iv p1] [(.int c0), (.int 0), (.ref b121), (.ref b121), (.ref b117), (.ref b117)]) s1 EF := fun t k => pre124 t (by
       exact X121.caload hx (j := 0) (v := (.int c0)) (hp e121 Ar125) (State.isArrayOf_alike hZ0.alike Ar125.2.1) Ar125.2.2 hin125 hat125 (g := (mkF m 155 #[rv a1, iv p1] [(.int 0), (.ref a1), (.int 0), (.ref b121), (.ref b121), (.ref b117), (.ref b117)])) rfl rfl (B d16_155) _ k)
      obtain ⟨cl127, Ar127, q127, Sz127, M127, H127, G127⟩ := id V121
      have hin127 := inb_of (j := (0 : Int32)) Sz127 ⟨by decide, by decide⟩
      obtain ⟨T127, h127, X127, e127, W127, st127⟩ := stC X121 hx hZ0 e121 Ar127 (j := 0) hin127 (g := (mkF m 156 #[rv a1, iv p1] [(.int c0), (.int 0), (.ref b121), (.ref b121), (.ref b117), (.ref b117)])) rfl rfl (B d16_156)
      rw [rc0.nc] at W127
      have pre128 : Go p e bl T127 (mkF m 157 #[rv a1, iv p1] [(.ref b121), (.ref b117), (.ref b117)]) s1 EF := fun t k => pre126 t (st127 t k)
      have O129 : Old Z n0 h127 := O123.wr W127 g_b121
      have Z129 : n0 ≤ h127.size := Nat.le_trans Z123 (Keep.of_wr W127).1
      have hk129 := Nat.le_trans hk123 (Keep.of_wr W127).1
      have C129 := CHv.wr W127 sf123_b121 C123
      have R129 := R123.trans (CHr.wr W127 sf123_b121 C123)
      have sf129_b117 := Safe.wr W127 sf123_b121 C123 sf123_b117
      have sf129_b121 := Safe.wr W127 sf123_b121 C123 sf123_b121
      have K129 : Keep h0 h127 [] := K123.wr W127 (Or.inr sz_b121)
      have V127 : Arv Z h127 b121 k121 .char (5 : Int32) [(.int c0), (.int 0), (.int 0), (.int 0), (.int 0)] (.int 0) := Arv.set Ar127 q127 Sz127 M127 H127 G127 (own_fitc rc0.nc) W127 0 rfl (wl rfl)
      have N127 := Fr.snoc X127 N0 g_b121
      have pre130 : Go p e bl T127 (mkF m 161 #[rv a1, iv p1] [(.int 1), (.ref a1), (.int 1), (.ref b121), (.ref b121), (.ref b117), (.ref b117)]) s1 EF := fun t k => pre128 t (by
       refine XS.dup X127.here hx rfl (B d16_157) rfl rfl ?_
       refine XS.iconst X127.here hx rfl (B d16_158) ?_
       refine XS.aloadN X127.here hx rfl (B d16_159) rfl rfl ?_
       exact XS.iconst X127.here hx rfl (B d16_160) k)
      obtain ⟨cl131, Ar131, q131, Sz131, M131, H131, G131⟩ := id (((V1.ext Et117).ext Et121).other W127 ne_a1_b121)
      have hin131 := inb_of (j := (1 : Int32)) Sz131 ⟨by decide, by decide⟩
      have hat131 := Has.at (v := (.int c1)) H131 hin131 rfl
      have pre132 : Go p e bl T127 (mkF m 162 #[rv a1, iv p1] [(.int c1), (.int 1), (.ref b121), (.ref b121), (.ref b117), (.ref b117)]) s1 EF := fun t k => pre130 t (by
       exact X127.caload hx (j := 1) (v := (.int c1)) (hp e127 Ar131) (State.isArrayOf_alike hZ0.alike Ar131.2.1) Ar131.2.2 hin131 hat131 (g := (mkF m 161 #[rv a1, iv p1] [(.int 1), (.ref a1), (.int 1), (.ref b121), (.ref b121), (.ref b117), (.ref b117)])) rfl rfl (B d16_161) _ k)
      obtain ⟨cl133, Ar133, q133, Sz133, M133, H133, G133⟩ := id V127
      have hin133 := inb_of (j := (1 : Int32)) Sz133 ⟨by decide, by decide⟩
      obtain ⟨T133, h133, X133, e133, W133, st133⟩ := stC X127 hx hZ0 e127 Ar133 (j := 1) hin133 (g := (mkF m 162 #[rv a1, iv p1] [(.int c1), (.int 1), (.ref b121), (.ref b121), (.ref b117), (.ref b117)])) rfl rfl (B d16_162)
      rw [rc1.nc] at W133
      have pre134 : Go p e bl T133 (mkF m 163 #[rv a1, iv p1] [(.ref b121), (.ref b117), (.ref b117)]) s1 EF := fun t k => pre132 t (st133 t k)
      have O135 : Old Z n0 h133 := O129.wr W133 g_b121
      have Z135 : n0 ≤ h133.size := Nat.le_trans Z129 (Keep.of_wr W133).1
      have hk135 := Nat.le_trans hk129 (Keep.of_wr W133).1
      have C135 := CHv.wr W133 sf129_b121 C129
      have R135 := R129.trans (CHr.wr W133 sf129_b121 C129)
      have sf135_b117 := Safe.wr W133 sf129_b121 C129 sf129_b117
      have sf135_b121 := Safe.wr W133 sf129_b121 C129 sf129_b121
      have K135 : Keep h0 h133 [] := K129.wr W133 (Or.inr sz_b121)
      have V133 : Arv Z h133 b121 k121 .char (5 : Int32) [(.int c0), (.int c1), (.int 0), (.int 0), (.int 0)] (.int 0) := Arv.set Ar133 q133 Sz133 M133 H133 G133 (own_fitc rc1.nc) W133 1 rfl (wl rfl)
      have N133 := Fr.snoc X133 N127 g_b121
      have pre136 : Go p e bl T133 (mkF m 167 #[rv a1, iv p1] [(.int 2), (.ref a1), (.int 2), (.ref b121), (.ref b121), (.ref b117), (.ref b117)]) s1 EF := fun t k => pre134 t (by
       refine XS.dup X133.here hx rfl (B d16_163) rfl rfl ?_
       refine XS.iconst X133.here hx rfl (B d16_164) ?_
       refine XS.aloadN X133.here hx rfl (B d16_165) rfl rfl ?_
       exact XS.iconst X133.here hx rfl (B d16_166) k)
      obtain ⟨cl137, Ar137, q137, Sz137, M137, H137, G137⟩ := id ((((V1.ext Et117).ext Et121).other W127 ne_a1_b121).other W133 ne_a1_b121)
      have hin137 := inb_of (j := (2 : Int32)) Sz137 ⟨by decide, by decide⟩
      have hat137 := Has.at (v := (.int c2)) H137 hin137 rfl
      have pre138 : Go p e bl T133 (mkF m 168 #[rv a1, iv p1] [(.int c2), (.int 2), (.ref b121), (.ref b121), (.ref b117), (.ref b117)]) s1 EF := fun t k => pre136 t (by
       exact X133.caload hx (j := 2) (v := (.int c2)) (hp e133 Ar137) (State.isArrayOf_alike hZ0.alike Ar137.2.1) Ar137.2.2 hin137 hat137 (g := (mkF m 167 #[rv a1, iv p1] [(.int 2), (.ref a1), (.int 2), (.ref b121), (.ref b121), (.ref b117), (.ref b117)])) rfl rfl (B d16_167) _ k)
      obtain ⟨cl139, Ar139, q139, Sz139, M139, H139, G139⟩ := id V133
      have hin139 := inb_of (j := (2 : Int32)) Sz139 ⟨by decide, by decide⟩
      obtain ⟨T139, h139, X139, e139, W139, st139⟩ := stC X133 hx hZ0 e133 Ar139 (j := 2) hin139 (g := (mkF m 168 #[rv a1, iv p1] [(.int c2), (.int 2), (.ref b121), (.ref b121), (.ref b117), (.ref b117)])) rfl rfl (B d16_168)
      rw [rc2.nc] at W139
      have pre140 : Go p e bl T139 (mkF m 169 #[rv a1, iv p1] [(.ref b121), (.ref b117), (.ref b117)]) s1 EF := fun t k => pre138 t (st139 t k)
      have O141 : Old Z n0 h139 := O135.wr W139 g_b121
      have Z141 : n0 ≤ h139.size := Nat.le_trans Z135 (Keep.of_wr W139).1
      have hk141 := Nat.le_trans hk135 (Keep.of_wr W139).1
      have C141 := CHv.wr W139 sf135_b121 C135
      have R141 := R135.trans (CHr.wr W139 sf135_b121 C135)
      have sf141_b117 := Safe.wr W139 sf135_b121 C135 sf135_b117
      have sf141_b121 := Safe.wr W139 sf135_b121 C135 sf135_b121
      have K141 : Keep h0 h139 [] := K135.wr W139 (Or.inr sz_b121)
      have V139 : Arv Z h139 b121 k121 .char (5 : Int32) [(.int c0), (.int c1), (.int c2), (.int 0), (.int 0)] (.int 0) := Arv.set Ar139 q139 Sz139 M139 H139 G139 (own_fitc rc2.nc) W139 2 rfl (wl rfl)
      have N139 := Fr.snoc X139 N133 g_b121
      have pre142 : Go p e bl T139 (mkF m 173 #[rv a1, iv p1] [(.int 3), (.ref a1), (.int 3), (.ref b121), (.ref b121), (.ref b117), (.ref b117)]) s1 EF := fun t k => pre140 t (by
       refine XS.dup X139.here hx rfl (B d16_169) rfl rfl ?_
       refine XS.iconst X139.here hx rfl (B d16_170) ?_
       refine XS.aloadN X139.here hx rfl (B d16_171) rfl rfl ?_
       exact XS.iconst X139.here hx rfl (B d16_172) k)
      obtain ⟨cl143, Ar143, q143, Sz143, M143, H143, G143⟩ := id (((((V1.ext Et117).ext Et121).other W127 ne_a1_b121).other W133 ne_a1_b121).other W139 ne_a1_b121)
      have hin143 := inb_of (j := (3 : Int32)) Sz143 ⟨by decide, by decide⟩
      have hat143 := Has.at (v := (.int c3)) H143 hin143 rfl
      have pre144 : Go p e bl T139 (mkF m 174 #[rv a1, iv p1] [(.int c3), (.int 3), (.ref b121), (.ref b121), (.ref b117), (.ref b117)]) s1 EF := fun t k => pre142 t (by
       exact X139.caload hx (j := 3) (v := (.int c3)) (hp e139 Ar143) (State.isArrayOf_alike hZ0.alike Ar143.2.1) Ar143.2.2 hin143 hat143 (g := (mkF m 173 #[rv a1, iv p1] [(.int 3), (.ref a1), (.int 3), (.ref b121), (.ref b121), (.ref b117), (.ref b117)])) rfl rfl (B d16_173) _ k)
      obtain ⟨cl145, Ar145, q145, Sz145, M145, H145, G145⟩ := id V139
      have hin145 := inb_of (j := (3 : Int32)) Sz145 ⟨by decide, by decide⟩
      obtain ⟨T145, h145, X145, e145, W145, st145⟩ := stC X139 hx hZ0 e139 Ar145 (j := 3) hin145 (g := (mkF m 174 #[rv a1, iv p1] [(.int c3), (.int 3), (.ref b121), (.ref b121), (.ref b117), (.ref b117)])) rfl rfl (B d16_174)
      rw [rc3.nc] at W145
      have pre146 : Go p e bl T145 (mkF m 175 #[rv a1, iv p1] [(.ref b121), (.ref b117), (.ref b117)]) s1 EF := fun t k => pre144 t (st145 t k)
      have O147 : Old Z n0 h145 := O141.wr W145 g_b121
      have Z147 : n0 ≤ h145.size := Nat.le_trans Z141 (Keep.of_wr W145).1
      have hk147 := Nat.le_trans hk141 (Keep.of_wr W145).1
      have C147 := CHv.wr W145 sf141_b121 C141
      have R147 := R141.trans (CHr.wr W145 sf141_b121 C141)
      have sf147_b117 := Safe.wr W145 sf141_b121 C141 sf141_b117
      have sf147_b121 := Safe.wr W145 sf141_b121 C141 sf141_b121
      have K147 : Keep h0 h145 [] := K141.wr W145 (Or.inr sz_b121)
      have V145 : Arv Z h145 b121 k121 .char (5 : Int32) [(.int c0), (.int c1), (.int c2), (.int c3), (.int 0)] (.int 0) := Arv.set Ar145 q145 Sz145 M145 H145 G145 (own_fitc rc3.nc) W145 3 rfl (wl rfl)
      have N145 := Fr.snoc X145 N139 g_b121
      have pre148 : Go p e bl T145 (mkF m 179 #[rv a1, iv p1] [(.int 4), (.ref a1), (.int 4), (.ref b121), (.ref b121), (.ref b117), (.ref b117)]) s1 EF := fun t k => pre146 t (by
       refine XS.dup X145.here hx rfl (B d16_175) rfl rfl ?_
       refine XS.iconst X145.here hx rfl (B d16_176) ?_
       refine XS.aloadN X145.here hx rfl (B d16_177) rfl rfl ?_
       exact XS.iconst X145.here hx rfl (B d16_178) k)
      obtain ⟨cl149, Ar149, q149, Sz149, M149, H149, G149⟩ := id ((((((V1.ext Et117).ext Et121).other W127 ne_a1_b121).other W133 ne_a1_b121).other W139 ne_a1_b121).other W145 ne_a1_b121)
      have hin149 := inb_of (j := (4 : Int32)) Sz149 ⟨by decide, by decide⟩
      have hat149 := Has.at (v := (.int c4)) H149 hin149 rfl
      have pre150 : Go p e bl T145 (mkF m 180 #[rv a1, iv p1] [(.int c4), (.int 4), (.ref b121), (.ref b121), (.ref b117), (.ref b117)]) s1 EF := fun t k => pre148 t (by
       exact X145.caload hx (j := 4) (v := (.int c4)) (hp e145 Ar149) (State.isArrayOf_alike hZ0.alike Ar149.2.1) Ar149.2.2 hin149 hat149 (g := (mkF m 179 #[rv a1, iv p1] [(.int 4), (.ref a1), (.int 4), (.ref b121), (.ref b121), (.ref b117), (.ref b117)])) rfl rfl (B d16_179) _ k)
      obtain ⟨cl151, Ar151, q151, Sz151, M151, H151, G151⟩ := id V145
      have hin151 := inb_of (j := (4 : Int32)) Sz151 ⟨by decide, by decide⟩
      obtain ⟨T151, h151, X151, e151, W151, st151⟩ := stC X145 hx hZ0 e145 Ar151 (j := 4) hin151 (g := (mkF m 180 #[rv a1, iv p1] [(.int c4), (.int 4), (.ref b121), (.ref b121), (.ref b117), (.ref b117)])) rfl rfl (B d16_180)
      rw [rc4.nc] at W151
      have pre152 : Go p e bl T151 (mkF m 181 #[rv a1, iv p1] [(.ref b121), (.ref b117), (.ref b117)]) s1 EF := fun t k => pre150 t (st151 t k)
      have O153 : Old Z n0 h151 := O147.wr W151 g_b121
      have Z153 : n0 ≤ h151.size := Nat.le_trans Z147 (Keep.of_wr W151).1
      have hk153 := Nat.le_trans hk147 (Keep.of_wr W151).1
      have C153 := CHv.wr W151 sf147_b121 C147
      have R153 := R147.trans (CHr.wr W151 sf147_b121 C147)
      have sf153_b117 := Safe.wr W151 sf147_b121 C147 sf147_b117
      have sf153_b121 := Safe.wr W151 sf147_b121 C147 sf147_b121
      have K153 : Keep h0 h151 [] := K147.wr W151 (Or.inr sz_b121)
      have V151 : Arv Z h151 b121 k121 .char (5 : Int32) [(.int c0), (.int c1), (.int c2), (.int c3), (.int c4)] (.int 0) := Arv.set Ar151 q151 Sz151 M151 H151 G151 (own_fitc rc4.nc) W151 4 rfl (wl rfl)
      have N151 := Fr.snoc X151 N145 g_b121
      obtain ⟨_, _, ⟨T154, L154, k154, n154⟩, -, X154, ⟨Lc154, hQ154, l154, y154, z154⟩, st154⟩ := X151.specialBack hx (y := mN6) rfl hown0 (mvT hZ0 (hw _ (mW 8 rfl))) (mvT hZ0 (hw _ (mW 9 rfl))) (mvT hZ0 (hw _ (mW 10 rfl))) (by decide) (backOf (W := 1) (rmKj l Z a0 hw [] b117 b121 cz fv (5 : Int32) k121 [c0, c1, c2, c3, c4] h151 n0 Z153 O153 J0 ((((((A117.ext Et121).wr W127).wr W133).wr W139).wr W145).wr W151) g_b117 (Fld.other W151 (Fld.other W145 (Fld.other W139 (Fld.other W133 (Fld.other W127 (F_value_b117.ext Et121) (Or.inl ne_b117_b121)) (Or.inl ne_b117_b121)) (Or.inl ne_b117_b121)) (Or.inl ne_b117_b121)) (Or.inl ne_b117_b121)) (Fld.other W151 (Fld.other W145 (Fld.other W139 (Fld.other W133 (Fld.other W127 (F_coder_b117.ext Et121) (Or.inl ne_b117_b121)) (Or.inl ne_b117_b121)) (Or.inl ne_b117_b121)) (Or.inl ne_b117_b121)) (Or.inl ne_b117_b121)) V151 (by decide) rfl (wl rfl) (wl rfl) (List.forall_mem_cons.mpr ⟨rc0.le, (List.forall_mem_cons.mpr ⟨rc1.le, (List.forall_mem_cons.mpr ⟨rc2.le, (List.forall_mem_cons.mpr ⟨rc3.le, (List.forall_mem_cons.mpr ⟨rc4.le, (fun _ q => nomatch q)⟩)⟩)⟩)⟩)⟩)) hZ0 (hw _ (mW 10 rfl)) (hw _ (mW 7 rfl)) (by decide) (by decide)) (g := (mkF m 181 #[rv a1, iv p1] [(.ref b121), (.ref b117), (.ref b117)])) rfl (hM rfl) (Steps.refl _) (a := b117) (argsL := [(.ref b121)]) (rest := [(.ref b117)]) (lenOf pd12 rfl) rfl (Nat.le_of_eq rfl) (B d16_181) (fun _ _ => ⟨rfl, e151, wl rfl, wl rfl⟩)
      dsimp only [Pt.U, Pt.locs, Pt.cells, Pt.slots] at X154 l154 y154 z154 st154 hQ154
      subst l154 y154 z154
      obtain ⟨rfl, N154q, K154, bv154, kb154, hsz154, SF154⟩ := hQ154
      have N154 := Fr.app N151 N154q
      have pre155 : Go p e bl T154 (mkF m 184 #[rv a1, iv p1] [(.ref b117)]) s1 EF := fun t k => pre152 t (st154.trans k)
      have O156 : Old Z n0 T154.heap := O153.keep K154 (allS g_b117 all0)
      have Z156 : n0 ≤ T154.heap.size := Nat.le_trans Z153 K154.1
      have hk156 := Nat.le_trans hk153 K154.1
      have C156 := CHv.keep K154 (sfS sf153_b117 sf0) C153
      have R156 := R153.trans (CHr.keep K154 (sfS sf153_b117 sf0) C153)
      have sf156_b117 := Safe.keep K154 (sfS sf153_b117 sf0) C153 sf153_b117
      have sf156_b121 := Safe.keep K154 (sfS sf153_b117 sf0) C153 sf153_b121
      have K156 : Keep h0 T154.heap [] := K153.trans K154 (allS (Or.inr sz_b117) all0)
      obtain ⟨fs, hr, hrun, hended, hend1, hend2, hend3, hsame⟩ := X154.leaveW hS0 hk156 (v := some (.ref b117)) (fun h => by rw [Bd.returns] at h; cases h)
      have hCH : CHr Z [("com/example/picketline/picketline/protocol/Protocol", 37), ("com/example/picketline/picketline/protocol/ProtocolNamedPinLaw", 20), ("com/example/picketline/picketline/protocol/ProtocolNamedPinLaw", 42), ("java/lang/String", 7)] s.vm s.heap T154.vm T154.heap := by rw [hh]; exact R156.trans (CHv.at X154 hZ0 (own_EW hw) C156)
      refine ⟨_, _, hEF ▸ pre155 _ (retOut X154 hx Bd.returns rfl (Or.inr (Or.inr (Or.inr (Or.inr ⟨rfl, rfl, rfl⟩)))) (B d16_184) hr), hrun, hended, _, _, rfl, ?_, hCH, hend1, hend2, hend3, hsame.mono (by decide) (by decide)⟩
      show QPx Z a1 p1 cz fv kc c0 c1 c2 c3 c4 c5 c6 c7 c8 c9 h0 n0 _ T154.heap _
      exact ⟨_, _, _, _, _, rfl, N154, K156, sz_b117, SF154, by rfl⟩
    have pre157 : Go p e bl s1 (mkF m 185 #[rv a1, iv p1] []) s1 EF := fun t k => pre115 t (XS.icmpYes X0.here hx rfl (pc0 := 141) (pc' := 185) rfl (B d16_141) rfl (feq hc141).2 (by decide) (by decide) k)
    have pre158 : Go p e bl s1 (mkF m 188 #[rv a1, iv p1] [(.int 6), (.int p1)]) s1 EF := fun t k => pre157 t (by
     refine XS.iloadN X0.here hx rfl (B d16_185) rfl ?_
     exact XS.bipush X0.here hx rfl (B d16_186) k)
    by_cases hc188 : p1 = (6 : Int32)
    · have pre159 : Go p e bl s1 (mkF m 191 #[rv a1, iv p1] []) s1 EF := fun t k => pre158 t (XS.icmpNo X0.here hx rfl (B d16_188) rfl (teq hc188).2 k)
      obtain ⟨T160, h160, X160, e160, Et160, A160, D160, U160, st160⟩ := newO X0 hx hZ0 hown0 (hw _ (mW 5 rfl)) (hw _ (mW 6 rfl)) (hw _ (mW 7 rfl)) e0 (g := (mkF m 191 #[rv a1, iv p1] [])) rfl (B d16_191) (by decide) (by decide)
      obtain ⟨b160, g160⟩ : ∃ z, z = h0.size := ⟨_, rfl⟩
      rw [← g160] at A160 st160 D160
      have g_b160 : n0 ≤ b160 := Nat.le_trans Z0 (Nat.le_of_eq g160.symm)
      have sz_b160 : h0.size ≤ b160 := Nat.le_trans (Keep.refl h0 []).1 (Nat.le_of_eq g160.symm)
      have sfn_b160 : Safe Z [("com/example/picketline/picketline/protocol/Protocol", 37), ("com/example/picketline/picketline/protocol/ProtocolNamedPinLaw", 20), ("com/example/picketline/picketline/protocol/ProtocolNamedPinLaw", 42), ("java/lang/String", 7)] s.vm h0 b160 := Safe.new (Nat.le_of_eq g160.symm)
      have ne_a1_b160 : a1 ≠ b160 := Nat.ne_of_lt (Nat.lt_of_lt_of_le V1.lt (Nat.le_of_eq g160.symm))
      have pre161 : Go p e bl T160 (mkF m 194 #[rv a1, iv p1] [(.ref b160)]) s1 EF := fun t k => pre159 t (st160 t k)
      have O162 : Old Z n0 h160 := O0.ext Et160
      have Z162 : n0 ≤ h160.size := Nat.le_trans Z0 Et160.1
      have hk162 := Nat.le_trans hk0 Et160.1
      have C162 := CHv.ext Et160 hC
      have R162 := (CHr.refl hC).trans (CHr.ext Et160 hC)
      have sf162_b160 := Safe.ext Et160 hC sfn_b160
      have K162 : Keep h0 h160 [] := (Keep.refl h0 []).ext Et160
      have F_coder_b160 : Fld Z h160 b160 "java/lang/String" "coder" "B" (.int 0) := D160 (Or.inr (hw _ (mW 31 rfl))) (ty := .byte) (by decide)
      have F_value_b160 : Fld Z h160 b160 "java/lang/String" "value" "[B" .null := D160 (Or.inr (hw _ (mW 33 rfl))) (ty := (.array .byte)) (by decide)
      have pre163 : Go p e bl T160 (mkF m 197 #[rv a1, iv p1] [(.int 6), (.ref b160), (.ref b160)]) s1 EF := fun t k => pre161 t (by
       refine XS.dup X160.here hx rfl (B d16_194) rfl rfl ?_
       exact XS.bipush X160.here hx rfl (B d16_195) k)
      obtain ⟨T164, h164, k164, X164, e164, Et164, A164, st164⟩ := newP X160 hx hZ0 (hw _ (mW 0 rfl)) e160 (g := (mkF m 197 #[rv a1, iv p1] [(.int 6), (.ref b160), (.ref b160)])) rfl (B d16_197) rfl (by decide) (cap := 6) (by decide) (by decide) (by decide) (by decide)
      obtain ⟨b164, g164⟩ : ∃ z, z = h160.size := ⟨_, rfl⟩
      rw [← g164] at A164 st164
      have g_b164 : n0 ≤ b164 := Nat.le_trans Z162 (Nat.le_of_eq g164.symm)
      have sz_b164 : h0.size ≤ b164 := Nat.le_trans K162.1 (Nat.le_of_eq g164.symm)
      have sfn_b164 : Safe Z [("com/example/picketline/picketline/protocol/Protocol", 37), ("com/example/picketline/picketline/protocol/ProtocolNamedPinLaw", 20), ("com/example/picketline/picketline/protocol/ProtocolNamedPinLaw", 42), ("java/lang/String", 7)] s.vm h160 b164 := Safe.new (Nat.le_of_eq g164.symm)
      have ne_a1_b164 : a1 ≠ b164 := Nat.ne_of_lt (Nat.lt_of_lt_of_le (V1.ext Et160).lt (Nat.le_of_eq g164.symm))
      have ne_b160_b164 : b160 ≠ b164 := Nat.ne_of_lt (Nat.lt_of_lt_of_le A160.lt (Nat.le_of_eq g164.symm))
      have pre165 : Go p e bl T164 (mkF m 199 #[rv a1, iv p1] [(.ref b164), (.ref b160), (.ref b160)]) s1 EF := fun t k => pre163 t (st164 t k)
      have O166 : Old Z n0 h164 := O162.ext Et164
      have Z166 : n0 ≤ h164.size := Nat.le_trans Z162 Et164.1
      have hk166 := Nat.le_trans hk162 Et164.1
      have C166 := CHv.ext Et164 C162
      have R166 := R162.trans (CHr.ext Et164 C162)
      have sf166_b160 := Safe.ext Et164 C162 sf162_b160
      have sf166_b164 := Safe.ext Et164 C162 sfn_b164
      have K166 : Keep h0 h164 [] := K162.ext Et164
      have V164 : Arv Z h164 b164 k164 .char (6 : Int32) [(.int 0), (.int 0), (.int 0), (.int 0), (.int 0), (.int 0)] (.int 0) := (Arv.new A164 (by decide)).pad (pad_rep [] (.int 0) 6)
      have pre167 : Go p e bl T164 (mkF m 203 #[rv a1, iv p1] [(.int 0), (.ref a1), (.int 0), (.ref b164), (.ref b164), (.ref b160), (.ref b160)]) s1 EF := fun t k => pre165 t (by
       refine XS.dup X164.here hx rfl (B d16_199) rfl rfl ?_
       refine XS.iconst X164.here hx rfl (B d16_200) ?_
       refine XS.aloadN X164.here hx rfl (B d16_201) rfl rfl ?_
       exact XS.iconst X164.here hx rfl (B d16_202) k)
      obtain ⟨cl168, Ar168, q168, Sz168, M168, H168, G168⟩ := id ((V1.ext Et160).ext Et164)
      have hin168 := inb_of (j := (0 : Int32)) Sz168 ⟨by decide, by decide⟩
      have hat168 := Has.at (v := (.int c0)) H168 hin168 rfl
      have pre169 : Go p e bl T164 (mkF m 204 #[rv a1, iv p1] [(.int c0), (.int 0), (.ref b164), (.ref b164), (.ref b160), (.ref b160)]) s1 EF := fun t k => pre167 t (by
       exact X164.caload hx (j := 0) (v := (.int c0)) (hp e164 Ar168) (State.isArrayOf_alike hZ0.alike Ar168.2.1) Ar168.2.2 hin168 hat168 (g := (mkF m 203 #[rv a1, iv p1] [(.int 0), (.ref a1), (.int 0), (.ref b164), (.ref b164), (.ref b160), (.ref b160)])) rfl rfl (B d16_203) _ k)
      obtain ⟨cl170, Ar170, q170, Sz170, M170, H170, G170⟩ := id V164
      have hin170 := inb_of (j := (0 : Int32)) Sz170 ⟨by decide, by decide⟩
      obtain ⟨T170, h170, X170, e170, W170, st170⟩ := stC X164 hx hZ0 e164 Ar170 (j := 0) hin170 (g := (mkF m 204 #[rv a1, iv p1] [(.int c0), (.int 0), (.ref b164), (.ref b164), (.ref b160), (.ref b160)])) rfl rfl (B d16_204)
      rw [rc0.nc] at W170
      have pre171 : Go p e bl T170 (mkF m 205 #[rv a1, iv p1] [(.ref b164), (.ref b160), (.ref b160)]) s1 EF := fun t k => pre169 t (st170 t k)
      have O172 : Old Z n0 h170 := O166.wr W170 g_b164
      have Z172 : n0 ≤ h170.size := Nat.le_trans Z166 (Keep.of_wr W170).1
      have hk172 := Nat.le_trans hk166 (Keep.of_wr W170).1
      have C172 := CHv.wr W170 sf166_b164 C166
      have R172 := R166.trans (CHr.wr W170 sf166_b164 C166)
      have sf172_b160 := Safe.wr W170 sf166_b164 C166 sf166_b160
      have sf172_b164 := Safe.wr W170 sf166_b164 C166 sf166_b164
      have K172 : Keep h0 h170 [] := K166.wr W170 (Or.inr sz_b164)
      have V170 : Arv Z h170 b164 k164 .char (6 : Int32) [(.int c0), (.int 0), (.int 0), (.int 0), (.int 0), (.int 0)] (.int 0) := Arv.set Ar170 q170 Sz170 M170 H170 G170 (own_fitc rc0.nc) W170 0 rfl (wl rfl)
      have N170 := Fr.snoc X170 N0 g_b164
      have pre173 : Go p e bl T170 (mkF m 209 #[rv a1, iv p1] [(.int 1), (.ref a1), (.int 1), (.ref b164), (.ref b164), (.ref b160), (.ref b160)]) s1 EF := fun t k => pre171 t (by
       refine XS.dup X170.here hx rfl (B d16_205) rfl rfl ?_
       refine XS.iconst X170.here hx rfl (B d16_206) ?_
       refine XS.aloadN X170.here hx rfl (B d16_207) rfl rfl ?_
       exact XS.iconst X170.here hx rfl (B d16_208) k)
      obtain ⟨cl174, Ar174, q174, Sz174, M174, H174, G174⟩ := id (((V1.ext Et160).ext Et164).other W170 ne_a1_b164)
      have hin174 := inb_of (j := (1 : Int32)) Sz174 ⟨by decide, by decide⟩
      have hat174 := Has.at (v := (.int c1)) H174 hin174 rfl
      have pre175 : Go p e bl T170 (mkF m 210 #[rv a1, iv p1] [(.int c1), (.int 1), (.ref b164), (.ref b164), (.ref b160), (.ref b160)]) s1 EF := fun t k => pre173 t (by
       exact X170.caload hx (j := 1) (v := (.int c1)) (hp e170 Ar174) (State.isArrayOf_alike hZ0.alike Ar174.2.1) Ar174.2.2 hin174 hat174 (g := (mkF m 209 #[rv a1, iv p1] [(.int 1), (.ref a1), (.int 1), (.ref b164), (.ref b164), (.ref b160), (.ref b160)])) rfl rfl (B d16_209) _ k)
      obtain ⟨cl176, Ar176, q176, Sz176, M176, H176, G176⟩ := id V170
      have hin176 := inb_of (j := (1 : Int32)) Sz176 ⟨by decide, by decide⟩
      obtain ⟨T176, h176, X176, e176, W176, st176⟩ := stC X170 hx hZ0 e170 Ar176 (j := 1) hin176 (g := (mkF m 210 #[rv a1, iv p1] [(.int c1), (.int 1), (.ref b164), (.ref b164), (.ref b160), (.ref b160)])) rfl rfl (B d16_210)
      rw [rc1.nc] at W176
      have pre177 : Go p e bl T176 (mkF m 211 #[rv a1, iv p1] [(.ref b164), (.ref b160), (.ref b160)]) s1 EF := fun t k => pre175 t (st176 t k)
      have O178 : Old Z n0 h176 := O172.wr W176 g_b164
      have Z178 : n0 ≤ h176.size := Nat.le_trans Z172 (Keep.of_wr W176).1
      have hk178 := Nat.le_trans hk172 (Keep.of_wr W176).1
      have C178 := CHv.wr W176 sf172_b164 C172
      have R178 := R172.trans (CHr.wr W176 sf172_b164 C172)
      have sf178_b160 := Safe.wr W176 sf172_b164 C172 sf172_b160
      have sf178_b164 := Safe.wr W176 sf172_b164 C172 sf172_b164
      have K178 : Keep h0 h176 [] := K172.wr W176 (Or.inr sz_b164)
      have V176 : Arv Z h176 b164 k164 .char (6 : Int32) [(.int c0), (.int c1), (.int 0), (.int 0), (.int 0), (.int 0)] (.int 0) := Arv.set Ar176 q176 Sz176 M176 H176 G176 (own_fitc rc1.nc) W176 1 rfl (wl rfl)
      have N176 := Fr.snoc X176 N170 g_b164
      have pre179 : Go p e bl T176 (mkF m 215 #[rv a1, iv p1] [(.int 2), (.ref a1), (.int 2), (.ref b164), (.ref b164), (.ref b160), (.ref b160)]) s1 EF := fun t k => pre177 t (by
       refine XS.dup X176.here hx rfl (B d16_211) rfl rfl ?_
       refine XS.iconst X176.here hx rfl (B d16_212) ?_
       refine XS.aloadN X176.here hx rfl (B d16_213) rfl rfl ?_
       exact XS.iconst X176.here hx rfl (B d16_214) k)
      obtain ⟨cl180, Ar180, q180, Sz180, M180, H180, G180⟩ := id ((((V1.ext Et160).ext Et164).other W170 ne_a1_b164).other W176 ne_a1_b164)
      have hin180 := inb_of (j := (2 : Int32)) Sz180 ⟨by decide, by decide⟩
      have hat180 := Has.at (v := (.int c2)) H180 hin180 rfl
      have pre181 : Go p e bl T176 (mkF m 216 #[rv a1, iv p1] [(.int c2), (.int 2), (.ref b164), (.ref b164), (.ref b160), (.ref b160)]) s1 EF := fun t k => pre179 t (by
       exact X176.caload hx (j := 2) (v := (.int c2)) (hp e176 Ar180) (State.isArrayOf_alike hZ0.alike Ar180.2.1) Ar180.2.2 hin180 hat180 (g := (mkF m 215 #[rv a1, iv p1] [(.int 2), (.ref a1), (.int 2), (.ref b164), (.ref b164), (.ref b160), (.ref b160)])) rfl rfl (B d16_215) _ k)
      obtain ⟨cl182, Ar182, q182, Sz182, M182, H182, G182⟩ := id V176
      have hin182 := inb_of (j := (2 : Int32)) Sz182 ⟨by decide, by decide⟩
      obtain ⟨T182, h182, X182, e182, W182, st182⟩ := stC X176 hx hZ0 e176 Ar182 (j := 2) hin182 (g := (mkF m 216 #[rv a1, iv p1] [(.int c2), (.int 2), (.ref b164), (.ref b164), (.ref b160), (.ref b160)])) rfl rfl (B d16_216)
      rw [rc2.nc] at W182
      have pre183 : Go p e bl T182 (mkF m 217 #[rv a1, iv p1] [(.ref b164), (.ref b160), (.ref b160)]) s1 EF := fun t k => pre181 t (st182 t k)
      have O184 : Old Z n0 h182 := O178.wr W182 g_b164
      have Z184 : n0 ≤ h182.size := Nat.le_trans Z178 (Keep.of_wr W182).1
      have hk184 := Nat.le_trans hk178 (Keep.of_wr W182).1
      have C184 := CHv.wr W182 sf178_b164 C178
      have R184 := R178.trans (CHr.wr W182 sf178_b164 C178)
      have sf184_b160 := Safe.wr W182 sf178_b164 C178 sf178_b160
      have sf184_b164 := Safe.wr W182 sf178_b164 C178 sf178_b164
      have K184 : Keep h0 h182 [] := K178.wr W182 (Or.inr sz_b164)
      have V182 : Arv Z h182 b164 k164 .char (6 : Int32) [(.int c0), (.int c1), (.int c2), (.int 0), (.int 0), (.int 0)] (.int 0) := Arv.set Ar182 q182 Sz182 M182 H182 G182 (own_fitc rc2.nc) W182 2 rfl (wl rfl)
      have N182 := Fr.snoc X182 N176 g_b164
      have pre185 : Go p e bl T182 (mkF m 221 #[rv a1, iv p1] [(.int 3), (.ref a1), (.int 3), (.ref b164), (.ref b164), (.ref b160), (.ref b160)]) s1 EF := fun t k => pre183 t (by
       refine XS.dup X182.here hx rfl (B d16_217) rfl rfl ?_
       refine XS.iconst X182.here hx rfl (B d16_218) ?_
       refine XS.aloadN X182.here hx rfl (B d16_219) rfl rfl ?_
       exact XS.iconst X182.here hx rfl (B d16_220) k)
      obtain ⟨cl186, Ar186, q186, Sz186, M186, H186, G186⟩ := id (((((V1.ext Et160).ext Et164).other W170 ne_a1_b164).other W176 ne_a1_b164).other W182 ne_a1_b164)
      have hin186 := inb_of (j := (3 : Int32)) Sz186 ⟨by decide, by decide⟩
      have hat186 := Has.at (v := (.int c3)) H186 hin186 rfl
      have pre187 : Go p e bl T182 (mkF m 222 #[rv a1, iv p1] [(.int c3), (.int 3), (.ref b164), (.ref b164), (.ref b160), (.ref b160)]) s1 EF := fun t k => pre185 t (by
       exact X182.caload hx (j := 3) (v := (.int c3)) (hp e182 Ar186) (State.isArrayOf_alike hZ0.alike Ar186.2.1) Ar186.2.2 hin186 hat186 (g := (mkF m 221 #[rv a1, iv p1] [(.int 3), (.ref a1), (.int 3), (.ref b164), (.ref b164), (.ref b160), (.ref b160)])) rfl rfl (B d16_221) _ k)
      obtain ⟨cl188, Ar188, q188, Sz188, M188, H188, G188⟩ := id V182
      have hin188 := inb_of (j := (3 : Int32)) Sz188 ⟨by decide, by decide⟩
      obtain ⟨T188, h188, X188, e188, W188, st188⟩ := stC X182 hx hZ0 e182 Ar188 (j := 3) hin188 (g := (mkF m 222 #[rv a1, iv p1] [(.int c3), (.int 3), (.ref b164), (.ref b164), (.ref b160), (.ref b160)])) rfl rfl (B d16_222)
      rw [rc3.nc] at W188
      have pre189 : Go p e bl T188 (mkF m 223 #[rv a1, iv p1] [(.ref b164), (.ref b160), (.ref b160)]) s1 EF := fun t k => pre187 t (st188 t k)
      have O190 : Old Z n0 h188 := O184.wr W188 g_b164
      have Z190 : n0 ≤ h188.size := Nat.le_trans Z184 (Keep.of_wr W188).1
      have hk190 := Nat.le_trans hk184 (Keep.of_wr W188).1
      have C190 := CHv.wr W188 sf184_b164 C184
      have R190 := R184.trans (CHr.wr W188 sf184_b164 C184)
      have sf190_b160 := Safe.wr W188 sf184_b164 C184 sf184_b160
      have sf190_b164 := Safe.wr W188 sf184_b164 C184 sf184_b164
      have K190 : Keep h0 h188 [] := K184.wr W188 (Or.inr sz_b164)
      have V188 : Arv Z h188 b164 k164 .char (6 : Int32) [(.int c0), (.int c1), (.int c2), (.int c3), (.int 0), (.int 0)] (.int 0) := Arv.set Ar188 q188 Sz188 M188 H188 G188 (own_fitc rc3.nc) W188 3 rfl (wl rfl)
      have N188 := Fr.snoc X188 N182 g_b164
      have pre191 : Go p e bl T188 (mkF m 227 #[rv a1, iv p1] [(.int 4), (.ref a1), (.int 4), (.ref b164), (.ref b164), (.ref b160), (.ref b160)]) s1 EF := fun t k => pre189 t (by
       refine XS.dup X188.here hx rfl (B d16_223) rfl rfl ?_
       refine XS.iconst X188.here hx rfl (B d16_224) ?_
       refine XS.aloadN X188.here hx rfl (B d16_225) rfl rfl ?_
       exact XS.iconst X188.here hx rfl (B d16_226) k)
      obtain ⟨cl192, Ar192, q192, Sz192, M192, H192, G192⟩ := id ((((((V1.ext Et160).ext Et164).other W170 ne_a1_b164).other W176 ne_a1_b164).other W182 ne_a1_b164).other W188 ne_a1_b164)
      have hin192 := inb_of (j := (4 : Int32)) Sz192 ⟨by decide, by decide⟩
      have hat192 := Has.at (v := (.int c4)) H192 hin192 rfl
      have pre193 : Go p e bl T188 (mkF m 228 #[rv a1, iv p1] [(.int c4), (.int 4), (.ref b164), (.ref b164), (.ref b160), (.ref b160)]) s1 EF := fun t k => pre191 t (by
       exact X188.caload hx (j := 4) (v := (.int c4)) (hp e188 Ar192) (State.isArrayOf_alike hZ0.alike Ar192.2.1) Ar192.2.2 hin192 hat192 (g := (mkF m 227 #[rv a1, iv p1] [(.int 4), (.ref a1), (.int 4), (.ref b164), (.ref b164), (.ref b160), (.ref b160)])) rfl rfl (B d16_227) _ k)
      obtain ⟨cl194, Ar194, q194, Sz194, M194, H194, G194⟩ := id V188
      have hin194 := inb_of (j := (4 : Int32)) Sz194 ⟨by decide, by decide⟩
      obtain ⟨T194, h194, X194, e194, W194, st194⟩ := stC X188 hx hZ0 e188 Ar194 (j := 4) hin194 (g := (mkF m 228 #[rv a1, iv p1] [(.int c4), (.int 4), (.ref b164), (.ref b164), (.ref b160), (.ref b160)])) rfl rfl (B d16_228)
      rw [rc4.nc] at W194
      have pre195 : Go p e bl T194 (mkF m 229 #[rv a1, iv p1] [(.ref b164), (.ref b160), (.ref b160)]) s1 EF := fun t k => pre193 t (st194 t k)
      have O196 : Old Z n0 h194 := O190.wr W194 g_b164
      have Z196 : n0 ≤ h194.size := Nat.le_trans Z190 (Keep.of_wr W194).1
      have hk196 := Nat.le_trans hk190 (Keep.of_wr W194).1
      have C196 := CHv.wr W194 sf190_b164 C190
      have R196 := R190.trans (CHr.wr W194 sf190_b164 C190)
      have sf196_b160 := Safe.wr W194 sf190_b164 C190 sf190_b160
      have sf196_b164 := Safe.wr W194 sf190_b164 C190 sf190_b164
      have K196 : Keep h0 h194 [] := K190.wr W194 (Or.inr sz_b164)
      have V194 : Arv Z h194 b164 k164 .char (6 : Int32) [(.int c0), (.int c1), (.int c2), (.int c3), (.int c4), (.int 0)] (.int 0) := Arv.set Ar194 q194 Sz194 M194 H194 G194 (own_fitc rc4.nc) W194 4 rfl (wl rfl)
      have N194 := Fr.snoc X194 N188 g_b164
      have pre197 : Go p e bl T194 (mkF m 233 #[rv a1, iv p1] [(.int 5), (.ref a1), (.int 5), (.ref b164), (.ref b164), (.ref b160), (.ref b160)]) s1 EF := fun t k => pre195 t (by
       refine XS.dup X194.here hx rfl (B d16_229) rfl rfl ?_
       refine XS.iconst X194.here hx rfl (B d16_230) ?_
       refine XS.aloadN X194.here hx rfl (B d16_231) rfl rfl ?_
       exact XS.iconst X194.here hx rfl (B d16_232) k)
      obtain ⟨cl198, Ar198, q198, Sz198, M198, H198, G198⟩ := id (((((((V1.ext Et160).ext Et164).other W170 ne_a1_b164).other W176 ne_a1_b164).other W182 ne_a1_b164).other W188 ne_a1_b164).other W194 ne_a1_b164)
      have hin198 := inb_of (j := (5 : Int32)) Sz198 ⟨by decide, by decide⟩
      have hat198 := Has.at (v := (.int c5)) H198 hin198 rfl
      have pre199 : Go p e bl T194 (mkF m 234 #[rv a1, iv p1] [(.int c5), (.int 5), (.ref b164), (.ref b164), (.ref b160), (.ref b160)]) s1 EF := fun t k => pre197 t (by
       exact X194.caload hx (j := 5) (v := (.int c5)) (hp e194 Ar198) (State.isArrayOf_alike hZ0.alike Ar198.2.1) Ar198.2.2 hin198 hat198 (g := (mkF m 233 #[rv a1, iv p1] [(.int 5), (.ref a1), (.int 5), (.ref b164), (.ref b164), (.ref b160), (.ref b160)])) rfl rfl (B d16_233) _ k)
      obtain ⟨cl200, Ar200, q200, Sz200, M200, H200, G200⟩ := id V194
      have hin200 := inb_of (j := (5 : Int32)) Sz200 ⟨by decide, by decide⟩
      obtain ⟨T200, h200, X200, e200, W200, st200⟩ := stC X194 hx hZ0 e194 Ar200 (j := 5) hin200 (g := (mkF m 234 #[rv a1, iv p1] [(.int c5), (.int 5), (.ref b164), (.ref b164), (.ref b160), (.ref b160)])) rfl rfl (B d16_234)
      rw [rc5.nc] at W200
      have pre201 : Go p e bl T200 (mkF m 235 #[rv a1, iv p1] [(.ref b164), (.ref b160), (.ref b160)]) s1 EF := fun t k => pre199 t (st200 t k)
      have O202 : Old Z n0 h200 := O196.wr W200 g_b164
      have Z202 : n0 ≤ h200.size := Nat.le_trans Z196 (Keep.of_wr W200).1
      have hk202 := Nat.le_trans hk196 (Keep.of_wr W200).1
      have C202 := CHv.wr W200 sf196_b164 C196
      have R202 := R196.trans (CHr.wr W200 sf196_b164 C196)
      have sf202_b160 := Safe.wr W200 sf196_b164 C196 sf196_b160
      have sf202_b164 := Safe.wr W200 sf196_b164 C196 sf196_b164
      have K202 : Keep h0 h200 [] := K196.wr W200 (Or.inr sz_b164)
      have V200 : Arv Z h200 b164 k164 .char (6 : Int32) [(.int c0), (.int c1), (.int c2), (.int c3), (.int c4), (.int c5)] (.int 0) := Arv.set Ar200 q200 Sz200 M200 H200 G200 (own_fitc rc5.nc) W200 5 rfl (wl rfl)
      have N200 := Fr.snoc X200 N194 g_b164
      obtain ⟨_, _, ⟨T203, L203, k203, n203⟩, -, X203, ⟨Lc203, hQ203, l203, y203, z203⟩, st203⟩ := X200.specialBack hx (y := mN6) rfl hown0 (mvT hZ0 (hw _ (mW 8 rfl))) (mvT hZ0 (hw _ (mW 9 rfl))) (mvT hZ0 (hw _ (mW 10 rfl))) (by decide) (backOf (W := 1) (rmKj l Z a0 hw [] b160 b164 cz fv (6 : Int32) k164 [c0, c1, c2, c3, c4, c5] h200 n0 Z202 O202 J0 (((((((A160.ext Et164).wr W170).wr W176).wr W182).wr W188).wr W194).wr W200) g_b160 (Fld.other W200 (Fld.other W194 (Fld.other W188 (Fld.other W182 (Fld.other W176 (Fld.other W170 (F_value_b160.ext Et164) (Or.inl ne_b160_b164)) (Or.inl ne_b160_b164)) (Or.inl ne_b160_b164)) (Or.inl ne_b160_b164)) (Or.inl ne_b160_b164)) (Or.inl ne_b160_b164)) (Fld.other W200 (Fld.other W194 (Fld.other W188 (Fld.other W182 (Fld.other W176 (Fld.other W170 (F_coder_b160.ext Et164) (Or.inl ne_b160_b164)) (Or.inl ne_b160_b164)) (Or.inl ne_b160_b164)) (Or.inl ne_b160_b164)) (Or.inl ne_b160_b164)) (Or.inl ne_b160_b164)) V200 (by decide) rfl (wl rfl) (wl rfl) (List.forall_mem_cons.mpr ⟨rc0.le, (List.forall_mem_cons.mpr ⟨rc1.le, (List.forall_mem_cons.mpr ⟨rc2.le, (List.forall_mem_cons.mpr ⟨rc3.le, (List.forall_mem_cons.mpr ⟨rc4.le, (List.forall_mem_cons.mpr ⟨rc5.le, (fun _ q => nomatch q)⟩)⟩)⟩)⟩)⟩)⟩)) hZ0 (hw _ (mW 10 rfl)) (hw _ (mW 7 rfl)) (by decide) (by decide)) (g := (mkF m 235 #[rv a1, iv p1] [(.ref b164), (.ref b160), (.ref b160)])) rfl (hM rfl) (Steps.refl _) (a := b160) (argsL := [(.ref b164)]) (rest := [(.ref b160)]) (lenOf pd12 rfl) rfl (Nat.le_of_eq rfl) (B d16_235) (fun _ _ => ⟨rfl, e200, wl rfl, wl rfl⟩)
      dsimp only [Pt.U, Pt.locs, Pt.cells, Pt.slots] at X203 l203 y203 z203 st203 hQ203
      subst l203 y203 z203
      obtain ⟨rfl, N203q, K203, bv203, kb203, hsz203, SF203⟩ := hQ203
      have N203 := Fr.app N200 N203q
      have pre204 : Go p e bl T203 (mkF m 238 #[rv a1, iv p1] [(.ref b160)]) s1 EF := fun t k => pre201 t (st203.trans k)
      have O205 : Old Z n0 T203.heap := O202.keep K203 (allS g_b160 all0)
      have Z205 : n0 ≤ T203.heap.size := Nat.le_trans Z202 K203.1
      have hk205 := Nat.le_trans hk202 K203.1
      have C205 := CHv.keep K203 (sfS sf202_b160 sf0) C202
      have R205 := R202.trans (CHr.keep K203 (sfS sf202_b160 sf0) C202)
      have sf205_b160 := Safe.keep K203 (sfS sf202_b160 sf0) C202 sf202_b160
      have sf205_b164 := Safe.keep K203 (sfS sf202_b160 sf0) C202 sf202_b164
      have K205 : Keep h0 T203.heap [] := K202.trans K203 (allS (Or.inr sz_b160) all0)
      obtain ⟨fs, hr, hrun, hended, hend1, hend2, hend3, hsame⟩ := X203.leaveW hS0 hk205 (v := some (.ref b160)) (fun h => by rw [Bd.returns] at h; cases h)
      have hCH : CHr Z [("com/example/picketline/picketline/protocol/Protocol", 37), ("com/example/picketline/picketline/protocol/ProtocolNamedPinLaw", 20), ("com/example/picketline/picketline/protocol/ProtocolNamedPinLaw", 42), ("java/lang/String", 7)] s.vm s.heap T203.vm T203.heap := by rw [hh]; exact R205.trans (CHv.at X203 hZ0 (own_EW hw) C205)
      refine ⟨_, _, hEF ▸ pre204 _ (retOut X203 hx Bd.returns rfl (Or.inr (Or.inr (Or.inr (Or.inr ⟨rfl, rfl, rfl⟩)))) (B d16_238) hr), hrun, hended, _, _, rfl, ?_, hCH, hend1, hend2, hend3, hsame.mono (by decide) (by decide)⟩
      show QPx Z a1 p1 cz fv kc c0 c1 c2 c3 c4 c5 c6 c7 c8 c9 h0 n0 _ T203.heap _
      exact ⟨_, _, _, _, _, rfl, N203, K205, sz_b160, SF203, by rfl⟩
    have pre206 : Go p e bl s1 (mkF m 239 #[rv a1, iv p1] []) s1 EF := fun t k => pre158 t (XS.icmpYes X0.here hx rfl (pc0 := 188) (pc' := 239) rfl (B d16_188) rfl (feq hc188).2 (by decide) (by decide) k)
    have pre207 : Go p e bl s1 (mkF m 242 #[rv a1, iv p1] [(.int 7), (.int p1)]) s1 EF := fun t k => pre206 t (by
     refine XS.iloadN X0.here hx rfl (B d16_239) rfl ?_
     exact XS.bipush X0.here hx rfl (B d16_240) k)
    by_cases hc242 : p1 = (7 : Int32)
    · have pre208 : Go p e bl s1 (mkF m 245 #[rv a1, iv p1] []) s1 EF := fun t k => pre207 t (XS.icmpNo X0.here hx rfl (B d16_242) rfl (teq hc242).2 k)
      obtain ⟨T209, h209, X209, e209, Et209, A209, D209, U209, st209⟩ := newO X0 hx hZ0 hown0 (hw _ (mW 5 rfl)) (hw _ (mW 6 rfl)) (hw _ (mW 7 rfl)) e0 (g := (mkF m 245 #[rv a1, iv p1] [])) rfl (B d16_245) (by decide) (by decide)
      obtain ⟨b209, g209⟩ : ∃ z, z = h0.size := ⟨_, rfl⟩
      rw [← g209] at A209 st209 D209
      have g_b209 : n0 ≤ b209 := Nat.le_trans Z0 (Nat.le_of_eq g209.symm)
      have sz_b209 : h0.size ≤ b209 := Nat.le_trans (Keep.refl h0 []).1 (Nat.le_of_eq g209.symm)
      have sfn_b209 : Safe Z [("com/example/picketline/picketline/protocol/Protocol", 37), ("com/example/picketline/picketline/protocol/ProtocolNamedPinLaw", 20), ("com/example/picketline/picketline/protocol/ProtocolNamedPinLaw", 42), ("java/lang/String", 7)] s.vm h0 b209 := Safe.new (Nat.le_of_eq g209.symm)
      have ne_a1_b209 : a1 ≠ b209 := Nat.ne_of_lt (Nat.lt_of_lt_of_le V1.lt (Nat.le_of_eq g209.symm))
      have pre210 : Go p e bl T209 (mkF m 248 #[rv a1, iv p1] [(.ref b209)]) s1 EF := fun t k => pre208 t (st209 t k)
      have O211 : Old Z n0 h209 := O0.ext Et209
      have Z211 : n0 ≤ h209.size := Nat.le_trans Z0 Et209.1
      have hk211 := Nat.le_trans hk0 Et209.1
      have C211 := CHv.ext Et209 hC
      have R211 := (CHr.refl hC).trans (CHr.ext Et209 hC)
      have sf211_b209 := Safe.ext Et209 hC sfn_b209
      have K211 : Keep h0 h209 [] := (Keep.refl h0 []).ext Et209
      have F_coder_b209 : Fld Z h209 b209 "java/lang/String" "coder" "B" (.int 0) := D209 (Or.inr (hw _ (mW 31 rfl))) (ty := .byte) (by decide)
      have F_value_b209 : Fld Z h209 b209 "java/lang/String" "value" "[B" .null := D209 (Or.inr (hw _ (mW 33 rfl))) (ty := (.array .byte)) (by decide)
      have pre212 : Go p e bl T209 (mkF m 251 #[rv a1, iv p1] [(.int 7), (.ref b209), (.ref b209)]) s1 EF := fun t k => pre210 t (by
       refine XS.dup X209.here hx rfl (B d16_248) rfl rfl ?_
       exact XS.bipush X209.here hx rfl (B d16_249) k)
      obtain ⟨T213, h213, k213, X213, e213, Et213, A213, st213⟩ := newP X209 hx hZ0 (hw _ (mW 0 rfl)) e209 (g := (mkF m 251 #[rv a1, iv p1] [(.int 7), (.ref b209), (.ref b209)])) rfl (B d16_251) rfl (by decide) (cap := 7) (by decide) (by decide) (by decide) (by decide)
      obtain ⟨b213, g213⟩ : ∃ z, z = h209.size := ⟨_, rfl⟩
      rw [← g213] at A213 st213
      have g_b213 : n0 ≤ b213 := Nat.le_trans Z211 (Nat.le_of_eq g213.symm)
      have sz_b213 : h0.size ≤ b213 := Nat.le_trans K211.1 (Nat.le_of_eq g213.symm)
      have sfn_b213 : Safe Z [("com/example/picketline/picketline/protocol/Protocol", 37), ("com/example/picketline/picketline/protocol/ProtocolNamedPinLaw", 20), ("com/example/picketline/picketline/protocol/ProtocolNamedPinLaw", 42), ("java/lang/String", 7)] s.vm h209 b213 := Safe.new (Nat.le_of_eq g213.symm)
      have ne_a1_b213 : a1 ≠ b213 := Nat.ne_of_lt (Nat.lt_of_lt_of_le (V1.ext Et209).lt (Nat.le_of_eq g213.symm))
      have ne_b209_b213 : b209 ≠ b213 := Nat.ne_of_lt (Nat.lt_of_lt_of_le A209.lt (Nat.le_of_eq g213.symm))
      have pre214 : Go p e bl T213 (mkF m 253 #[rv a1, iv p1] [(.ref b213), (.ref b209), (.ref b209)]) s1 EF := fun t k => pre212 t (st213 t k)
      have O215 : Old Z n0 h213 := O211.ext Et213
      have Z215 : n0 ≤ h213.size := Nat.le_trans Z211 Et213.1
      have hk215 := Nat.le_trans hk211 Et213.1
      have C215 := CHv.ext Et213 C211
      have R215 := R211.trans (CHr.ext Et213 C211)
      have sf215_b209 := Safe.ext Et213 C211 sf211_b209
      have sf215_b213 := Safe.ext Et213 C211 sfn_b213
      have K215 : Keep h0 h213 [] := K211.ext Et213
      have V213 : Arv Z h213 b213 k213 .char (7 : Int32) [(.int 0), (.int 0), (.int 0), (.int 0), (.int 0), (.int 0), (.int 0)] (.int 0) := (Arv.new A213 (by decide)).pad (pad_rep [] (.int 0) 7)
      have pre216 : Go p e bl T213 (mkF m 257 #[rv a1, iv p1] [(.int 0), (.ref a1), (.int 0), (.ref b213), (.ref b213), (.ref b209), (.ref b209)]) s1 EF := fun t k => pre214 t (by
       refine XS.dup X213.here hx rfl (B d16_253) rfl rfl ?_
       refine XS.iconst X213.here hx rfl (B d16_254) ?_
       refine XS.aloadN X213.here hx rfl (B d16_255) rfl rfl ?_
       exact XS.iconst X213.here hx rfl (B d16_256) k)
      obtain ⟨cl217, Ar217, q217, Sz217, M217, H217, G217⟩ := id ((V1.ext Et209).ext Et213)
      have hin217 := inb_of (j := (0 : Int32)) Sz217 ⟨by decide, by decide⟩
      have hat217 := Has.at (v := (.int c0)) H217 hin217 rfl
      have pre218 : Go p e bl T213 (mkF m 258 #[rv a1, iv p1] [(.int c0), (.int 0), (.ref b213), (.ref b213), (.ref b209), (.ref b209)]) s1 EF := fun t k => pre216 t (by
       exact X213.caload hx (j := 0) (v := (.int c0)) (hp e213 Ar217) (State.isArrayOf_alike hZ0.alike Ar217.2.1) Ar217.2.2 hin217 hat217 (g := (mkF m 257 #[rv a1, iv p1] [(.int 0), (.ref a1), (.int 0), (.ref b213), (.ref b213), (.ref b209), (.ref b209)])) rfl rfl (B d16_257) _ k)
      obtain ⟨cl219, Ar219, q219, Sz219, M219, H219, G219⟩ := id V213
      have hin219 := inb_of (j := (0 : Int32)) Sz219 ⟨by decide, by decide⟩
      obtain ⟨T219, h219, X219, e219, W219, st219⟩ := stC X213 hx hZ0 e213 Ar219 (j := 0) hin219 (g := (mkF m 258 #[rv a1, iv p1] [(.int c0), (.int 0), (.ref b213), (.ref b213), (.ref b209), (.ref b209)])) rfl rfl (B d16_258)
      rw [rc0.nc] at W219
      have pre220 : Go p e bl T219 (mkF m 259 #[rv a1, iv p1] [(.ref b213), (.ref b209), (.ref b209)]) s1 EF := fun t k => pre218 t (st219 t k)
      have O221 : Old Z n0 h219 := O215.wr W219 g_b213
      have Z221 : n0 ≤ h219.size := Nat.le_trans Z215 (Keep.of_wr W219).1
      have hk221 := Nat.le_trans hk215 (Keep.of_wr W219).1
      have C221 := CHv.wr W219 sf215_b213 C215
      have R221 := R215.trans (CHr.wr W219 sf215_b213 C215)
      have sf221_b209 := Safe.wr W219 sf215_b213 C215 sf215_b209
      have sf221_b213 := Safe.wr W219 sf215_b213 C215 sf215_b213
      have K221 : Keep h0 h219 [] := K215.wr W219 (Or.inr sz_b213)
      have V219 : Arv Z h219 b213 k213 .char (7 : Int32) [(.int c0), (.int 0), (.int 0), (.int 0), (.int 0), (.int 0), (.int 0)] (.int 0) := Arv.set Ar219 q219 Sz219 M219 H219 G219 (own_fitc rc0.nc) W219 0 rfl (wl rfl)
      have N219 := Fr.snoc X219 N0 g_b213
      have pre222 : Go p e bl T219 (mkF m 263 #[rv a1, iv p1] [(.int 1), (.ref a1), (.int 1), (.ref b213), (.ref b213), (.ref b209), (.ref b209)]) s1 EF := fun t k => pre220 t (by
       refine XS.dup X219.here hx rfl (B d16_259) rfl rfl ?_
       refine XS.iconst X219.here hx rfl (B d16_260) ?_
       refine XS.aloadN X219.here hx rfl (B d16_261) rfl rfl ?_
       exact XS.iconst X219.here hx rfl (B d16_262) k)
      obtain ⟨cl223, Ar223, q223, Sz223, M223, H223, G223⟩ := id (((V1.ext Et209).ext Et213).other W219 ne_a1_b213)
      have hin223 := inb_of (j := (1 : Int32)) Sz223 ⟨by decide, by decide⟩
      have hat223 := Has.at (v := (.int c1)) H223 hin223 rfl
      have pre224 : Go p e bl T219 (mkF m 264 #[rv a1, iv p1] [(.int c1), (.int 1), (.ref b213), (.ref b213), (.ref b209), (.ref b209)]) s1 EF := fun t k => pre222 t (by
       exact X219.caload hx (j := 1) (v := (.int c1)) (hp e219 Ar223) (State.isArrayOf_alike hZ0.alike Ar223.2.1) Ar223.2.2 hin223 hat223 (g := (mkF m 263 #[rv a1, iv p1] [(.int 1), (.ref a1), (.int 1), (.ref b213), (.ref b213), (.ref b209), (.ref b209)])) rfl rfl (B d16_263) _ k)
      obtain ⟨cl225, Ar225, q225, Sz225, M225, H225, G225⟩ := id V219
      have hin225 := inb_of (j := (1 : Int32)) Sz225 ⟨by decide, by decide⟩
      obtain ⟨T225, h225, X225, e225, W225, st225⟩ := stC X219 hx hZ0 e219 Ar225 (j := 1) hin225 (g := (mkF m 264 #[rv a1, iv p1] [(.int c1), (.int 1), (.ref b213), (.ref b213), (.ref b209), (.ref b209)])) rfl rfl (B d16_264)
      rw [rc1.nc] at W225
      have pre226 : Go p e bl T225 (mkF m 265 #[rv a1, iv p1] [(.ref b213), (.ref b209), (.ref b209)]) s1 EF := fun t k => pre224 t (st225 t k)
      have O227 : Old Z n0 h225 := O221.wr W225 g_b213
      have Z227 : n0 ≤ h225.size := Nat.le_trans Z221 (Keep.of_wr W225).1
      have hk227 := Nat.le_trans hk221 (Keep.of_wr W225).1
      have C227 := CHv.wr W225 sf221_b213 C221
      have R227 := R221.trans (CHr.wr W225 sf221_b213 C221)
      have sf227_b209 := Safe.wr W225 sf221_b213 C221 sf221_b209
      have sf227_b213 := Safe.wr W225 sf221_b213 C221 sf221_b213
      have K227 : Keep h0 h225 [] := K221.wr W225 (Or.inr sz_b213)
      have V225 : Arv Z h225 b213 k213 .char (7 : Int32) [(.int c0), (.int c1), (.int 0), (.int 0), (.int 0), (.int 0), (.int 0)] (.int 0) := Arv.set Ar225 q225 Sz225 M225 H225 G225 (own_fitc rc1.nc) W225 1 rfl (wl rfl)
      have N225 := Fr.snoc X225 N219 g_b213
      have pre228 : Go p e bl T225 (mkF m 269 #[rv a1, iv p1] [(.int 2), (.ref a1), (.int 2), (.ref b213), (.ref b213), (.ref b209), (.ref b209)]) s1 EF := fun t k => pre226 t (by
       refine XS.dup X225.here hx rfl (B d16_265) rfl rfl ?_
       refine XS.iconst X225.here hx rfl (B d16_266) ?_
       refine XS.aloadN X225.here hx rfl (B d16_267) rfl rfl ?_
       exact XS.iconst X225.here hx rfl (B d16_268) k)
      obtain ⟨cl229, Ar229, q229, Sz229, M229, H229, G229⟩ := id ((((V1.ext Et209).ext Et213).other W219 ne_a1_b213).other W225 ne_a1_b213)
      have hin229 := inb_of (j := (2 : Int32)) Sz229 ⟨by decide, by decide⟩
      have hat229 := Has.at (v := (.int c2)) H229 hin229 rfl
      have pre230 : Go p e bl T225 (mkF m 270 #[rv a1, iv p1] [(.int c2), (.int 2), (.ref b213), (.ref b213), (.ref b209), (.ref b209)]) s1 EF := fun t k => pre228 t (by
       exact X225.caload hx (j := 2) (v := (.int c2)) (hp e225 Ar229) (State.isArrayOf_alike hZ0.alike Ar229.2.1) Ar229.2.2 hin229 hat229 (g := (mkF m 269 #[rv a1, iv p1] [(.int 2), (.ref a1), (.int 2), (.ref b213), (.ref b213), (.ref b209), (.ref b209)])) rfl rfl (B d16_269) _ k)
      obtain ⟨cl231, Ar231, q231, Sz231, M231, H231, G231⟩ := id V225
      have hin231 := inb_of (j := (2 : Int32)) Sz231 ⟨by decide, by decide⟩
      obtain ⟨T231, h231, X231, e231, W231, st231⟩ := stC X225 hx hZ0 e225 Ar231 (j := 2) hin231 (g := (mkF m 270 #[rv a1, iv p1] [(.int c2), (.int 2), (.ref b213), (.ref b213), (.ref b209), (.ref b209)])) rfl rfl (B d16_270)
      rw [rc2.nc] at W231
      have pre232 : Go p e bl T231 (mkF m 271 #[rv a1, iv p1] [(.ref b213), (.ref b209), (.ref b209)]) s1 EF := fun t k => pre230 t (st231 t k)
      have O233 : Old Z n0 h231 := O227.wr W231 g_b213
      have Z233 : n0 ≤ h231.size := Nat.le_trans Z227 (Keep.of_wr W231).1
      have hk233 := Nat.le_trans hk227 (Keep.of_wr W231).1
      have C233 := CHv.wr W231 sf227_b213 C227
      have R233 := R227.trans (CHr.wr W231 sf227_b213 C227)
      have sf233_b209 := Safe.wr W231 sf227_b213 C227 sf227_b209
      have sf233_b213 := Safe.wr W231 sf227_b213 C227 sf227_b213
      have K233 : Keep h0 h231 [] := K227.wr W231 (Or.inr sz_b213)
      have V231 : Arv Z h231 b213 k213 .char (7 : Int32) [(.int c0), (.int c1), (.int c2), (.int 0), (.int 0), (.int 0), (.int 0)] (.int 0) := Arv.set Ar231 q231 Sz231 M231 H231 G231 (own_fitc rc2.nc) W231 2 rfl (wl rfl)
      have N231 := Fr.snoc X231 N225 g_b213
      have pre234 : Go p e bl T231 (mkF m 275 #[rv a1, iv p1] [(.int 3), (.ref a1), (.int 3), (.ref b213), (.ref b213), (.ref b209), (.ref b209)]) s1 EF := fun t k => pre232 t (by
       refine XS.dup X231.here hx rfl (B d16_271) rfl rfl ?_
       refine XS.iconst X231.here hx rfl (B d16_272) ?_
       refine XS.aloadN X231.here hx rfl (B d16_273) rfl rfl ?_
       exact XS.iconst X231.here hx rfl (B d16_274) k)
      obtain ⟨cl235, Ar235, q235, Sz235, M235, H235, G235⟩ := id (((((V1.ext Et209).ext Et213).other W219 ne_a1_b213).other W225 ne_a1_b213).other W231 ne_a1_b213)
      have hin235 := inb_of (j := (3 : Int32)) Sz235 ⟨by decide, by decide⟩
      have hat235 := Has.at (v := (.int c3)) H235 hin235 rfl
      have pre236 : Go p e bl T231 (mkF m 276 #[rv a1, iv p1] [(.int c3), (.int 3), (.ref b213), (.ref b213), (.ref b209), (.ref b209)]) s1 EF := fun t k => pre234 t (by
       exact X231.caload hx (j := 3) (v := (.int c3)) (hp e231 Ar235) (State.isArrayOf_alike hZ0.alike Ar235.2.1) Ar235.2.2 hin235 hat235 (g := (mkF m 275 #[rv a1, iv p1] [(.int 3), (.ref a1), (.int 3), (.ref b213), (.ref b213), (.ref b209), (.ref b209)])) rfl rfl (B d16_275) _ k)
      obtain ⟨cl237, Ar237, q237, Sz237, M237, H237, G237⟩ := id V231
      have hin237 := inb_of (j := (3 : Int32)) Sz237 ⟨by decide, by decide⟩
      obtain ⟨T237, h237, X237, e237, W237, st237⟩ := stC X231 hx hZ0 e231 Ar237 (j := 3) hin237 (g := (mkF m 276 #[rv a1, iv p1] [(.int c3), (.int 3), (.ref b213), (.ref b213), (.ref b209), (.ref b209)])) rfl rfl (B d16_276)
      rw [rc3.nc] at W237
      have pre238 : Go p e bl T237 (mkF m 277 #[rv a1, iv p1] [(.ref b213), (.ref b209), (.ref b209)]) s1 EF := fun t k => pre236 t (st237 t k)
      have O239 : Old Z n0 h237 := O233.wr W237 g_b213
      have Z239 : n0 ≤ h237.size := Nat.le_trans Z233 (Keep.of_wr W237).1
      have hk239 := Nat.le_trans hk233 (Keep.of_wr W237).1
      have C239 := CHv.wr W237 sf233_b213 C233
      have R239 := R233.trans (CHr.wr W237 sf233_b213 C233)
      have sf239_b209 := Safe.wr W237 sf233_b213 C233 sf233_b209
      have sf239_b213 := Safe.wr W237 sf233_b213 C233 sf233_b213
      have K239 : Keep h0 h237 [] := K233.wr W237 (Or.inr sz_b213)
      have V237 : Arv Z h237 b213 k213 .char (7 : Int32) [(.int c0), (.int c1), (.int c2), (.int c3), (.int 0), (.int 0), (.int 0)] (.int 0) := Arv.set Ar237 q237 Sz237 M237 H237 G237 (own_fitc rc3.nc) W237 3 rfl (wl rfl)
      have N237 := Fr.snoc X237 N231 g_b213
      have pre240 : Go p e bl T237 (mkF m 281 #[rv a1, iv p1] [(.int 4), (.ref a1), (.int 4), (.ref b213), (.ref b213), (.ref b209), (.ref b209)]) s1 EF := fun t k => pre238 t (by
       refine XS.dup X237.here hx rfl (B d16_277) rfl rfl ?_
       refine XS.iconst X237.here hx rfl (B d16_278) ?_
       refine XS.aloadN X237.here hx rfl (B d16_279) rfl rfl ?_
       exact XS.iconst X237.here hx rfl (B d16_280) k)
      obtain ⟨cl241, Ar241, q241, Sz241, M241, H241, G241⟩ := id ((((((V1.ext Et209).ext Et213).other W219 ne_a1_b213).other W225 ne_a1_b213).other W231 ne_a1_b213).other W237 ne_a1_b213)
      have hin241 := inb_of (j := (4 : Int32)) Sz241 ⟨by decide, by decide⟩
      have hat241 := Has.at (v := (.int c4)) H241 hin241 rfl
      have pre242 : Go p e bl T237 (mkF m 282 #[rv a1, iv p1] [(.int c4), (.int 4), (.ref b213), (.ref b213), (.ref b209), (.ref b209)]) s1 EF := fun t k => pre240 t (by
       exact X237.caload hx (j := 4) (v := (.int c4)) (hp e237 Ar241) (State.isArrayOf_alike hZ0.alike Ar241.2.1) Ar241.2.2 hin241 hat241 (g := (mkF m 281 #[rv a1, iv p1] [(.int 4), (.ref a1), (.int 4), (.ref b213), (.ref b213), (.ref b209), (.ref b209)])) rfl rfl (B d16_281) _ k)
      obtain ⟨cl243, Ar243, q243, Sz243, M243, H243, G243⟩ := id V237
      have hin243 := inb_of (j := (4 : Int32)) Sz243 ⟨by decide, by decide⟩
      obtain ⟨T243, h243, X243, e243, W243, st243⟩ := stC X237 hx hZ0 e237 Ar243 (j := 4) hin243 (g := (mkF m 282 #[rv a1, iv p1] [(.int c4), (.int 4), (.ref b213), (.ref b213), (.ref b209), (.ref b209)])) rfl rfl (B d16_282)
      rw [rc4.nc] at W243
      have pre244 : Go p e bl T243 (mkF m 283 #[rv a1, iv p1] [(.ref b213), (.ref b209), (.ref b209)]) s1 EF := fun t k => pre242 t (st243 t k)
      have O245 : Old Z n0 h243 := O239.wr W243 g_b213
      have Z245 : n0 ≤ h243.size := Nat.le_trans Z239 (Keep.of_wr W243).1
      have hk245 := Nat.le_trans hk239 (Keep.of_wr W243).1
      have C245 := CHv.wr W243 sf239_b213 C239
      have R245 := R239.trans (CHr.wr W243 sf239_b213 C239)
      have sf245_b209 := Safe.wr W243 sf239_b213 C239 sf239_b209
      have sf245_b213 := Safe.wr W243 sf239_b213 C239 sf239_b213
      have K245 : Keep h0 h243 [] := K239.wr W243 (Or.inr sz_b213)
      have V243 : Arv Z h243 b213 k213 .char (7 : Int32) [(.int c0), (.int c1), (.int c2), (.int c3), (.int c4), (.int 0), (.int 0)] (.int 0) := Arv.set Ar243 q243 Sz243 M243 H243 G243 (own_fitc rc4.nc) W243 4 rfl (wl rfl)
      have N243 := Fr.snoc X243 N237 g_b213
      have pre246 : Go p e bl T243 (mkF m 287 #[rv a1, iv p1] [(.int 5), (.ref a1), (.int 5), (.ref b213), (.ref b213), (.ref b209), (.ref b209)]) s1 EF := fun t k => pre244 t (by
       refine XS.dup X243.here hx rfl (B d16_283) rfl rfl ?_
       refine XS.iconst X243.here hx rfl (B d16_284) ?_
       refine XS.aloadN X243.here hx rfl (B d16_285) rfl rfl ?_
       exact XS.iconst X243.here hx rfl (B d16_286) k)
      obtain ⟨cl247, Ar247, q247, Sz247, M247, H247, G247⟩ := id (((((((V1.ext Et209).ext Et213).other W219 ne_a1_b213).other W225 ne_a1_b213).other W231 ne_a1_b213).other W237 ne_a1_b213).other W243 ne_a1_b213)
      have hin247 := inb_of (j := (5 : Int32)) Sz247 ⟨by decide, by decide⟩
      have hat247 := Has.at (v := (.int c5)) H247 hin247 rfl
      have pre248 : Go p e bl T243 (mkF m 288 #[rv a1, iv p1] [(.int c5), (.int 5), (.ref b213), (.ref b213), (.ref b209), (.ref b209)]) s1 EF := fun t k => pre246 t (by
       exact X243.caload hx (j := 5) (v := (.int c5)) (hp e243 Ar247) (State.isArrayOf_alike hZ0.alike Ar247.2.1) Ar247.2.2 hin247 hat247 (g := (mkF m 287 #[rv a1, iv p1] [(.int 5), (.ref a1), (.int 5), (.ref b213), (.ref b213), (.ref b209), (.ref b209)])) rfl rfl (B d16_287) _ k)
      obtain ⟨cl249, Ar249, q249, Sz249, M249, H249, G249⟩ := id V243
      have hin249 := inb_of (j := (5 : Int32)) Sz249 ⟨by decide, by decide⟩
      obtain ⟨T249, h249, X249, e249, W249, st249⟩ := stC X243 hx hZ0 e243 Ar249 (j := 5) hin249 (g := (mkF m 288 #[rv a1, iv p1] [(.int c5), (.int 5), (.ref b213), (.ref b213), (.ref b209), (.ref b209)])) rfl rfl (B d16_288)
      rw [rc5.nc] at W249
      have pre250 : Go p e bl T249 (mkF m 289 #[rv a1, iv p1] [(.ref b213), (.ref b209), (.ref b209)]) s1 EF := fun t k => pre248 t (st249 t k)
      have O251 : Old Z n0 h249 := O245.wr W249 g_b213
      have Z251 : n0 ≤ h249.size := Nat.le_trans Z245 (Keep.of_wr W249).1
      have hk251 := Nat.le_trans hk245 (Keep.of_wr W249).1
      have C251 := CHv.wr W249 sf245_b213 C245
      have R251 := R245.trans (CHr.wr W249 sf245_b213 C245)
      have sf251_b209 := Safe.wr W249 sf245_b213 C245 sf245_b209
      have sf251_b213 := Safe.wr W249 sf245_b213 C245 sf245_b213
      have K251 : Keep h0 h249 [] := K245.wr W249 (Or.inr sz_b213)
      have V249 : Arv Z h249 b213 k213 .char (7 : Int32) [(.int c0), (.int c1), (.int c2), (.int c3), (.int c4), (.int c5), (.int 0)] (.int 0) := Arv.set Ar249 q249 Sz249 M249 H249 G249 (own_fitc rc5.nc) W249 5 rfl (wl rfl)
      have N249 := Fr.snoc X249 N243 g_b213
      have pre252 : Go p e bl T249 (mkF m 295 #[rv a1, iv p1] [(.int 6), (.ref a1), (.int 6), (.ref b213), (.ref b213), (.ref b209), (.ref b209)]) s1 EF := fun t k => pre250 t (by
       refine XS.dup X249.here hx rfl (B d16_289) rfl rfl ?_
       refine XS.bipush X249.here hx rfl (B d16_290) ?_
       refine XS.aloadN X249.here hx rfl (B d16_292) rfl rfl ?_
       exact XS.bipush X249.here hx rfl (B d16_293) k)
      obtain ⟨cl253, Ar253, q253, Sz253, M253, H253, G253⟩ := id ((((((((V1.ext Et209).ext Et213).other W219 ne_a1_b213).other W225 ne_a1_b213).other W231 ne_a1_b213).other W237 ne_a1_b213).other W243 ne_a1_b213).other W249 ne_a1_b213)
      have hin253 := inb_of (j := (6 : Int32)) Sz253 ⟨by decide, by decide⟩
      have hat253 := Has.at (v := (.int c6)) H253 hin253 rfl
      have pre254 : Go p e bl T249 (mkF m 296 #[rv a1, iv p1] [(.int c6), (.int 6), (.ref b213), (.ref b213), (.ref b209), (.ref b209)]) s1 EF := fun t k => pre252 t (by
       exact X249.caload hx (j := 6) (v := (.int c6)) (hp e249 Ar253) (State.isArrayOf_alike hZ0.alike Ar253.2.1) Ar253.2.2 hin253 hat253 (g := (mkF m 295 #[rv a1, iv p1] [(.int 6), (.ref a1), (.int 6), (.ref b213), (.ref b213), (.ref b209), (.ref b209)])) rfl rfl (B d16_295) _ k)
      obtain ⟨cl255, Ar255, q255, Sz255, M255, H255, G255⟩ := id V249
      have hin255 := inb_of (j := (6 : Int32)) Sz255 ⟨by decide, by decide⟩
      obtain ⟨T255, h255, X255, e255, W255, st255⟩ := stC X249 hx hZ0 e249 Ar255 (j := 6) hin255 (g := (mkF m 296 #[rv a1, iv p1] [(.int c6), (.int 6), (.ref b213), (.ref b213), (.ref b209), (.ref b209)])) rfl rfl (B d16_296)
      rw [rc6.nc] at W255
      have pre256 : Go p e bl T255 (mkF m 297 #[rv a1, iv p1] [(.ref b213), (.ref b209), (.ref b209)]) s1 EF := fun t k => pre254 t (st255 t k)
      have O257 : Old Z n0 h255 := O251.wr W255 g_b213
      have Z257 : n0 ≤ h255.size := Nat.le_trans Z251 (Keep.of_wr W255).1
      have hk257 := Nat.le_trans hk251 (Keep.of_wr W255).1
      have C257 := CHv.wr W255 sf251_b213 C251
      have R257 := R251.trans (CHr.wr W255 sf251_b213 C251)
      have sf257_b209 := Safe.wr W255 sf251_b213 C251 sf251_b209
      have sf257_b213 := Safe.wr W255 sf251_b213 C251 sf251_b213
      have K257 : Keep h0 h255 [] := K251.wr W255 (Or.inr sz_b213)
      have V255 : Arv Z h255 b213 k213 .char (7 : Int32) [(.int c0), (.int c1), (.int c2), (.int c3), (.int c4), (.int c5), (.int c6)] (.int 0) := Arv.set Ar255 q255 Sz255 M255 H255 G255 (own_fitc rc6.nc) W255 6 rfl (wl rfl)
      have N255 := Fr.snoc X255 N249 g_b213
      obtain ⟨_, _, ⟨T258, L258, k258, n258⟩, -, X258, ⟨Lc258, hQ258, l258, y258, z258⟩, st258⟩ := X255.specialBack hx (y := mN6) rfl hown0 (mvT hZ0 (hw _ (mW 8 rfl))) (mvT hZ0 (hw _ (mW 9 rfl))) (mvT hZ0 (hw _ (mW 10 rfl))) (by decide) (backOf (W := 1) (rmKj l Z a0 hw [] b209 b213 cz fv (7 : Int32) k213 [c0, c1, c2, c3, c4, c5, c6] h255 n0 Z257 O257 J0 ((((((((A209.ext Et213).wr W219).wr W225).wr W231).wr W237).wr W243).wr W249).wr W255) g_b209 (Fld.other W255 (Fld.other W249 (Fld.other W243 (Fld.other W237 (Fld.other W231 (Fld.other W225 (Fld.other W219 (F_value_b209.ext Et213) (Or.inl ne_b209_b213)) (Or.inl ne_b209_b213)) (Or.inl ne_b209_b213)) (Or.inl ne_b209_b213)) (Or.inl ne_b209_b213)) (Or.inl ne_b209_b213)) (Or.inl ne_b209_b213)) (Fld.other W255 (Fld.other W249 (Fld.other W243 (Fld.other W237 (Fld.other W231 (Fld.other W225 (Fld.other W219 (F_coder_b209.ext Et213) (Or.inl ne_b209_b213)) (Or.inl ne_b209_b213)) (Or.inl ne_b209_b213)) (Or.inl ne_b209_b213)) (Or.inl ne_b209_b213)) (Or.inl ne_b209_b213)) (Or.inl ne_b209_b213)) V255 (by decide) rfl (wl rfl) (wl rfl) (List.forall_mem_cons.mpr ⟨rc0.le, (List.forall_mem_cons.mpr ⟨rc1.le, (List.forall_mem_cons.mpr ⟨rc2.le, (List.forall_mem_cons.mpr ⟨rc3.le, (List.forall_mem_cons.mpr ⟨rc4.le, (List.forall_mem_cons.mpr ⟨rc5.le, (List.forall_mem_cons.mpr ⟨rc6.le, (fun _ q => nomatch q)⟩)⟩)⟩)⟩)⟩)⟩)⟩)) hZ0 (hw _ (mW 10 rfl)) (hw _ (mW 7 rfl)) (by decide) (by decide)) (g := (mkF m 297 #[rv a1, iv p1] [(.ref b213), (.ref b209), (.ref b209)])) rfl (hM rfl) (Steps.refl _) (a := b209) (argsL := [(.ref b213)]) (rest := [(.ref b209)]) (lenOf pd12 rfl) rfl (Nat.le_of_eq rfl) (B d16_297) (fun _ _ => ⟨rfl, e255, wl rfl, wl rfl⟩)
      dsimp only [Pt.U, Pt.locs, Pt.cells, Pt.slots] at X258 l258 y258 z258 st258 hQ258
      subst l258 y258 z258
      obtain ⟨rfl, N258q, K258, bv258, kb258, hsz258, SF258⟩ := hQ258
      have N258 := Fr.app N255 N258q
      have pre259 : Go p e bl T258 (mkF m 300 #[rv a1, iv p1] [(.ref b209)]) s1 EF := fun t k => pre256 t (st258.trans k)
      have O260 : Old Z n0 T258.heap := O257.keep K258 (allS g_b209 all0)
      have Z260 : n0 ≤ T258.heap.size := Nat.le_trans Z257 K258.1
      have hk260 := Nat.le_trans hk257 K258.1
      have C260 := CHv.keep K258 (sfS sf257_b209 sf0) C257
      have R260 := R257.trans (CHr.keep K258 (sfS sf257_b209 sf0) C257)
      have sf260_b209 := Safe.keep K258 (sfS sf257_b209 sf0) C257 sf257_b209
      have sf260_b213 := Safe.keep K258 (sfS sf257_b209 sf0) C257 sf257_b213
      have K260 : Keep h0 T258.heap [] := K257.trans K258 (allS (Or.inr sz_b209) all0)
      obtain ⟨fs, hr, hrun, hended, hend1, hend2, hend3, hsame⟩ := X258.leaveW hS0 hk260 (v := some (.ref b209)) (fun h => by rw [Bd.returns] at h; cases h)
      have hCH : CHr Z [("com/example/picketline/picketline/protocol/Protocol", 37), ("com/example/picketline/picketline/protocol/ProtocolNamedPinLaw", 20), ("com/example/picketline/picketline/protocol/ProtocolNamedPinLaw", 42), ("java/lang/String", 7)] s.vm s.heap T258.vm T258.heap := by rw [hh]; exact R260.trans (CHv.at X258 hZ0 (own_EW hw) C260)
      refine ⟨_, _, hEF ▸ pre259 _ (retOut X258 hx Bd.returns rfl (Or.inr (Or.inr (Or.inr (Or.inr ⟨rfl, rfl, rfl⟩)))) (B d16_300) hr), hrun, hended, _, _, rfl, ?_, hCH, hend1, hend2, hend3, hsame.mono (by decide) (by decide)⟩
      show QPx Z a1 p1 cz fv kc c0 c1 c2 c3 c4 c5 c6 c7 c8 c9 h0 n0 _ T258.heap _
      exact ⟨_, _, _, _, _, rfl, N258, K260, sz_b209, SF258, by rfl⟩
    have pre261 : Go p e bl s1 (mkF m 301 #[rv a1, iv p1] []) s1 EF := fun t k => pre207 t (XS.icmpYes X0.here hx rfl (pc0 := 242) (pc' := 301) rfl (B d16_242) rfl (feq hc242).2 (by decide) (by decide) k)
    have pre262 : Go p e bl s1 (mkF m 304 #[rv a1, iv p1] [(.int 8), (.int p1)]) s1 EF := fun t k => pre261 t (by
     refine XS.iloadN X0.here hx rfl (B d16_301) rfl ?_
     exact XS.bipush X0.here hx rfl (B d16_302) k)
    by_cases hc304 : p1 = (8 : Int32)
    · have pre263 : Go p e bl s1 (mkF m 307 #[rv a1, iv p1] []) s1 EF := fun t k => pre262 t (XS.icmpNo X0.here hx rfl (B d16_304) rfl (teq hc304).2 k)
      obtain ⟨T264, h264, X264, e264, Et264, A264, D264, U264, st264⟩ := newO X0 hx hZ0 hown0 (hw _ (mW 5 rfl)) (hw _ (mW 6 rfl)) (hw _ (mW 7 rfl)) e0 (g := (mkF m 307 #[rv a1, iv p1] [])) rfl (B d16_307) (by decide) (by decide)
      obtain ⟨b264, g264⟩ : ∃ z, z = h0.size := ⟨_, rfl⟩
      rw [← g264] at A264 st264 D264
      have g_b264 : n0 ≤ b264 := Nat.le_trans Z0 (Nat.le_of_eq g264.symm)
      have sz_b264 : h0.size ≤ b264 := Nat.le_trans (Keep.refl h0 []).1 (Nat.le_of_eq g264.symm)
      have sfn_b264 : Safe Z [("com/example/picketline/picketline/protocol/Protocol", 37), ("com/example/picketline/picketline/protocol/ProtocolNamedPinLaw", 20), ("com/example/picketline/picketline/protocol/ProtocolNamedPinLaw", 42), ("java/lang/String", 7)] s.vm h0 b264 := Safe.new (Nat.le_of_eq g264.symm)
      have ne_a1_b264 : a1 ≠ b264 := Nat.ne_of_lt (Nat.lt_of_lt_of_le V1.lt (Nat.le_of_eq g264.symm))
      have pre265 : Go p e bl T264 (mkF m 310 #[rv a1, iv p1] [(.ref b264)]) s1 EF := fun t k => pre263 t (st264 t k)
      have O266 : Old Z n0 h264 := O0.ext Et264
      have Z266 : n0 ≤ h264.size := Nat.le_trans Z0 Et264.1
      have hk266 := Nat.le_trans hk0 Et264.1
      have C266 := CHv.ext Et264 hC
      have R266 := (CHr.refl hC).trans (CHr.ext Et264 hC)
      have sf266_b264 := Safe.ext Et264 hC sfn_b264
      have K266 : Keep h0 h264 [] := (Keep.refl h0 []).ext Et264
      have F_coder_b264 : Fld Z h264 b264 "java/lang/String" "coder" "B" (.int 0) := D264 (Or.inr (hw _ (mW 31 rfl))) (ty := .byte) (by decide)
      have F_value_b264 : Fld Z h264 b264 "java/lang/String" "value" "[B" .null := D264 (Or.inr (hw _ (mW 33 rfl))) (ty := (.array .byte)) (by decide)
      have pre267 : Go p e bl T264 (mkF m 313 #[rv a1, iv p1] [(.int 8), (.ref b264), (.ref b264)]) s1 EF := fun t k => pre265 t (by
       refine XS.dup X264.here hx rfl (B d16_310) rfl rfl ?_
       exact XS.bipush X264.here hx rfl (B d16_311) k)
      obtain ⟨T268, h268, k268, X268, e268, Et268, A268, st268⟩ := newP X264 hx hZ0 (hw _ (mW 0 rfl)) e264 (g := (mkF m 313 #[rv a1, iv p1] [(.int 8), (.ref b264), (.ref b264)])) rfl (B d16_313) rfl (by decide) (cap := 8) (by decide) (by decide) (by decide) (by decide)
      obtain ⟨b268, g268⟩ : ∃ z, z = h264.size := ⟨_, rfl⟩
      rw [← g268] at A268 st268
      have g_b268 : n0 ≤ b268 := Nat.le_trans Z266 (Nat.le_of_eq g268.symm)
      have sz_b268 : h0.size ≤ b268 := Nat.le_trans K266.1 (Nat.le_of_eq g268.symm)
      have sfn_b268 : Safe Z [("com/example/picketline/picketline/protocol/Protocol", 37), ("com/example/picketline/picketline/protocol/ProtocolNamedPinLaw", 20), ("com/example/picketline/picketline/protocol/ProtocolNamedPinLaw", 42), ("java/lang/String", 7)] s.vm h264 b268 := Safe.new (Nat.le_of_eq g268.symm)
      have ne_a1_b268 : a1 ≠ b268 := Nat.ne_of_lt (Nat.lt_of_lt_of_le (V1.ext Et264).lt (Nat.le_of_eq g268.symm))
      have ne_b264_b268 : b264 ≠ b268 := Nat.ne_of_lt (Nat.lt_of_lt_of_le A264.lt (Nat.le_of_eq g268.symm))
      have pre269 : Go p e bl T268 (mkF m 315 #[rv a1, iv p1] [(.ref b268), (.ref b264), (.ref b264)]) s1 EF := fun t k => pre267 t (st268 t k)
      have O270 : Old Z n0 h268 := O266.ext Et268
      have Z270 : n0 ≤ h268.size := Nat.le_trans Z266 Et268.1
      have hk270 := Nat.le_trans hk266 Et268.1
      have C270 := CHv.ext Et268 C266
      have R270 := R266.trans (CHr.ext Et268 C266)
      have sf270_b264 := Safe.ext Et268 C266 sf266_b264
      have sf270_b268 := Safe.ext Et268 C266 sfn_b268
      have K270 : Keep h0 h268 [] := K266.ext Et268
      have V268 : Arv Z h268 b268 k268 .char (8 : Int32) [(.int 0), (.int 0), (.int 0), (.int 0), (.int 0), (.int 0), (.int 0), (.int 0)] (.int 0) := (Arv.new A268 (by decide)).pad (pad_rep [] (.int 0) 8)
      have pre271 : Go p e bl T268 (mkF m 319 #[rv a1, iv p1] [(.int 0), (.ref a1), (.int 0), (.ref b268), (.ref b268), (.ref b264), (.ref b264)]) s1 EF := fun t k => pre269 t (by
       refine XS.dup X268.here hx rfl (B d16_315) rfl rfl ?_
       refine XS.iconst X268.here hx rfl (B d16_316) ?_
       refine XS.aloadN X268.here hx rfl (B d16_317) rfl rfl ?_
       exact XS.iconst X268.here hx rfl (B d16_318) k)
      obtain ⟨cl272, Ar272, q272, Sz272, M272, H272, G272⟩ := id ((V1.ext Et264).ext Et268)
      have hin272 := inb_of (j := (0 : Int32)) Sz272 ⟨by decide, by decide⟩
      have hat272 := Has.at (v := (.int c0)) H272 hin272 rfl
      have pre273 : Go p e bl T268 (mkF m 320 #[rv a1, iv p1] [(.int c0), (.int 0), (.ref b268), (.ref b268), (.ref b264), (.ref b264)]) s1 EF := fun t k => pre271 t (by
       exact X268.caload hx (j := 0) (v := (.int c0)) (hp e268 Ar272) (State.isArrayOf_alike hZ0.alike Ar272.2.1) Ar272.2.2 hin272 hat272 (g := (mkF m 319 #[rv a1, iv p1] [(.int 0), (.ref a1), (.int 0), (.ref b268), (.ref b268), (.ref b264), (.ref b264)])) rfl rfl (B d16_319) _ k)
      obtain ⟨cl274, Ar274, q274, Sz274, M274, H274, G274⟩ := id V268
      have hin274 := inb_of (j := (0 : Int32)) Sz274 ⟨by decide, by decide⟩
      obtain ⟨T274, h274, X274, e274, W274, st274⟩ := stC X268 hx hZ0 e268 Ar274 (j := 0) hin274 (g := (mkF m 320 #[rv a1, iv p1] [(.int c0), (.int 0), (.ref b268), (.ref b268), (.ref b264), (.ref b264)])) rfl rfl (B d16_320)
      rw [rc0.nc] at W274
      have pre275 : Go p e bl T274 (mkF m 321 #[rv a1, iv p1] [(.ref b268), (.ref b264), (.ref b264)]) s1 EF := fun t k => pre273 t (st274 t k)
      have O276 : Old Z n0 h274 := O270.wr W274 g_b268
      have Z276 : n0 ≤ h274.size := Nat.le_trans Z270 (Keep.of_wr W274).1
      have hk276 := Nat.le_trans hk270 (Keep.of_wr W274).1
      have C276 := CHv.wr W274 sf270_b268 C270
      have R276 := R270.trans (CHr.wr W274 sf270_b268 C270)
      have sf276_b264 := Safe.wr W274 sf270_b268 C270 sf270_b264
      have sf276_b268 := Safe.wr W274 sf270_b268 C270 sf270_b268
      have K276 : Keep h0 h274 [] := K270.wr W274 (Or.inr sz_b268)
      have V274 : Arv Z h274 b268 k268 .char (8 : Int32) [(.int c0), (.int 0), (.int 0), (.int 0), (.int 0), (.int 0), (.int 0), (.int 0)] (.int 0) := Arv.set Ar274 q274 Sz274 M274 H274 G274 (own_fitc rc0.nc) W274 0 rfl (wl rfl)
      have N274 := Fr.snoc X274 N0 g_b268
      have pre277 : Go p e bl T274 (mkF m 325 #[rv a1, iv p1] [(.int 1), (.ref a1), (.int 1), (.ref b268), (.ref b268), (.ref b264), (.ref b264)]) s1 EF := fun t k => pre275 t (by
       refine XS.dup X274.here hx rfl (B d16_321) rfl rfl ?_
       refine XS.iconst X274.here hx rfl (B d16_322) ?_
       refine XS.aloadN X274.here hx rfl (B d16_323) rfl rfl ?_
       exact XS.iconst X274.here hx rfl (B d16_324) k)
      obtain ⟨cl278, Ar278, q278, Sz278, M278, H278, G278⟩ := id (((V1.ext Et264).ext Et268).other W274 ne_a1_b268)
      have hin278 := inb_of (j := (1 : Int32)) Sz278 ⟨by decide, by decide⟩
      have hat278 := Has.at (v := (.int c1)) H278 hin278 rfl
      have pre279 : Go p e bl T274 (mkF m 326 #[rv a1, iv p1] [(.int c1), (.int 1), (.ref b268), (.ref b268), (.ref b264), (.ref b264)]) s1 EF := fun t k => pre277 t (by
       exact X274.caload hx (j := 1) (v := (.int c1)) (hp e274 Ar278) (State.isArrayOf_alike hZ0.alike Ar278.2.1) Ar278.2.2 hin278 hat278 (g := (mkF m 325 #[rv a1, iv p1] [(.int 1), (.ref a1), (.int 1), (.ref b268), (.ref b268), (.ref b264), (.ref b264)])) rfl rfl (B d16_325) _ k)
      obtain ⟨cl280, Ar280, q280, Sz280, M280, H280, G280⟩ := id V274
      have hin280 := inb_of (j := (1 : Int32)) Sz280 ⟨by decide, by decide⟩
      obtain ⟨T280, h280, X280, e280, W280, st280⟩ := stC X274 hx hZ0 e274 Ar280 (j := 1) hin280 (g := (mkF m 326 #[rv a1, iv p1] [(.int c1), (.int 1), (.ref b268), (.ref b268), (.ref b264), (.ref b264)])) rfl rfl (B d16_326)
      rw [rc1.nc] at W280
      have pre281 : Go p e bl T280 (mkF m 327 #[rv a1, iv p1] [(.ref b268), (.ref b264), (.ref b264)]) s1 EF := fun t k => pre279 t (st280 t k)
      have O282 : Old Z n0 h280 := O276.wr W280 g_b268
      have Z282 : n0 ≤ h280.size := Nat.le_trans Z276 (Keep.of_wr W280).1
      have hk282 := Nat.le_trans hk276 (Keep.of_wr W280).1
      have C282 := CHv.wr W280 sf276_b268 C276
      have R282 := R276.trans (CHr.wr W280 sf276_b268 C276)
      have sf282_b264 := Safe.wr W280 sf276_b268 C276 sf276_b264
      have sf282_b268 := Safe.wr W280 sf276_b268 C276 sf276_b268
      have K282 : Keep h0 h280 [] := K276.wr W280 (Or.inr sz_b268)
      have V280 : Arv Z h280 b268 k268 .char (8 : Int32) [(.int c0), (.int c1), (.int 0), (.int 0), (.int 0), (.int 0), (.int 0), (.int 0)] (.int 0) := Arv.set Ar280 q280 Sz280 M280 H280 G280 (own_fitc rc1.nc) W280 1 rfl (wl rfl)
      have N280 := Fr.snoc X280 N274 g_b268
      have pre283 : Go p e bl T280 (mkF m 331 #[rv a1, iv p1] [(.int 2), (.ref a1), (.int 2), (.ref b268), (.ref b268), (.ref b264), (.ref b264)]) s1 EF := fun t k => pre281 t (by
       refine XS.dup X280.here hx rfl (B d16_327) rfl rfl ?_
       refine XS.iconst X280.here hx rfl (B d16_328) ?_
       refine XS.aloadN X280.here hx rfl (B d16_329) rfl rfl ?_
       exact XS.iconst X280.here hx rfl (B d16_330) k)
      obtain ⟨cl284, Ar284, q284, Sz284, M284, H284, G284⟩ := id ((((V1.ext Et264).ext Et268).other W274 ne_a1_b268).other W280 ne_a1_b268)
      have hin284 := inb_of (j := (2 : Int32)) Sz284 ⟨by decide, by decide⟩
      have hat284 := Has.at (v := (.int c2)) H284 hin284 rfl
      have pre285 : Go p e bl T280 (mkF m 332 #[rv a1, iv p1] [(.int c2), (.int 2), (.ref b268), (.ref b268), (.ref b264), (.ref b264)]) s1 EF := fun t k => pre283 t (by
       exact X280.caload hx (j := 2) (v := (.int c2)) (hp e280 Ar284) (State.isArrayOf_alike hZ0.alike Ar284.2.1) Ar284.2.2 hin284 hat284 (g := (mkF m 331 #[rv a1, iv p1] [(.int 2), (.ref a1), (.int 2), (.ref b268), (.ref b268), (.ref b264), (.ref b264)])) rfl rfl (B d16_331) _ k)
      obtain ⟨cl286, Ar286, q286, Sz286, M286, H286, G286⟩ := id V280
      have hin286 := inb_of (j := (2 : Int32)) Sz286 ⟨by decide, by decide⟩
      obtain ⟨T286, h286, X286, e286, W286, st286⟩ := stC X280 hx hZ0 e280 Ar286 (j := 2) hin286 (g := (mkF m 332 #[rv a1, iv p1] [(.int c2), (.int 2), (.ref b268), (.ref b268), (.ref b264), (.ref b264)])) rfl rfl (B d16_332)
      rw [rc2.nc] at W286
      have pre287 : Go p e bl T286 (mkF m 333 #[rv a1, iv p1] [(.ref b268), (.ref b264), (.ref b264)]) s1 EF := fun t k => pre285 t (st286 t k)
      have O288 : Old Z n0 h286 := O282.wr W286 g_b268
      have Z288 : n0 ≤ h286.size := Nat.le_trans Z282 (Keep.of_wr W286).1
      have hk288 := Nat.le_trans hk282 (Keep.of_wr W286).1
      have C288 := CHv.wr W286 sf282_b268 C282
      have R288 := R282.trans (CHr.wr W286 sf282_b268 C282)
      have sf288_b264 := Safe.wr W286 sf282_b268 C282 sf282_b264
      have sf288_b268 := Safe.wr W286 sf282_b268 C282 sf282_b268
      have K288 : Keep h0 h286 [] := K282.wr W286 (Or.inr sz_b268)
      have V286 : Arv Z h286 b268 k268 .char (8 : Int32) [(.int c0), (.int c1), (.int c2), (.int 0), (.int 0), (.int 0), (.int 0), (.int 0)] (.int 0) := Arv.set Ar286 q286 Sz286 M286 H286 G286 (own_fitc rc2.nc) W286 2 rfl (wl rfl)
      have N286 := Fr.snoc X286 N280 g_b268
      have pre289 : Go p e bl T286 (mkF m 337 #[rv a1, iv p1] [(.int 3), (.ref a1), (.int 3), (.ref b268), (.ref b268), (.ref b264), (.ref b264)]) s1 EF := fun t k => pre287 t (by
       refine XS.dup X286.here hx rfl (B d16_333) rfl rfl ?_
       refine XS.iconst X286.here hx rfl (B d16_334) ?_
       refine XS.aloadN X286.here hx rfl (B d16_335) rfl rfl ?_
       exact XS.iconst X286.here hx rfl (B d16_336) k)
      obtain ⟨cl290, Ar290, q290, Sz290, M290, H290, G290⟩ := id (((((V1.ext Et264).ext Et268).other W274 ne_a1_b268).other W280 ne_a1_b268).other W286 ne_a1_b268)
      have hin290 := inb_of (j := (3 : Int32)) Sz290 ⟨by decide, by decide⟩
      have hat290 := Has.at (v := (.int c3)) H290 hin290 rfl
      have pre291 : Go p e bl T286 (mkF m 338 #[rv a1, iv p1] [(.int c3), (.int 3), (.ref b268), (.ref b268), (.ref b264), (.ref b264)]) s1 EF := fun t k => pre289 t (by
       exact X286.caload hx (j := 3) (v := (.int c3)) (hp e286 Ar290) (State.isArrayOf_alike hZ0.alike Ar290.2.1) Ar290.2.2 hin290 hat290 (g := (mkF m 337 #[rv a1, iv p1] [(.int 3), (.ref a1), (.int 3), (.ref b268), (.ref b268), (.ref b264), (.ref b264)])) rfl rfl (B d16_337) _ k)
      obtain ⟨cl292, Ar292, q292, Sz292, M292, H292, G292⟩ := id V286
      have hin292 := inb_of (j := (3 : Int32)) Sz292 ⟨by decide, by decide⟩
      obtain ⟨T292, h292, X292, e292, W292, st292⟩ := stC X286 hx hZ0 e286 Ar292 (j := 3) hin292 (g := (mkF m 338 #[rv a1, iv p1] [(.int c3), (.int 3), (.ref b268), (.ref b268), (.ref b264), (.ref b264)])) rfl rfl (B d16_338)
      rw [rc3.nc] at W292
      have pre293 : Go p e bl T292 (mkF m 339 #[rv a1, iv p1] [(.ref b268), (.ref b264), (.ref b264)]) s1 EF := fun t k => pre291 t (st292 t k)
      have O294 : Old Z n0 h292 := O288.wr W292 g_b268
      have Z294 : n0 ≤ h292.size := Nat.le_trans Z288 (Keep.of_wr W292).1
      have hk294 := Nat.le_trans hk288 (Keep.of_wr W292).1
      have C294 := CHv.wr W292 sf288_b268 C288
      have R294 := R288.trans (CHr.wr W292 sf288_b268 C288)
      have sf294_b264 := Safe.wr W292 sf288_b268 C288 sf288_b264
      have sf294_b268 := Safe.wr W292 sf288_b268 C288 sf288_b268
      have K294 : Keep h0 h292 [] := K288.wr W292 (Or.inr sz_b268)
      have V292 : Arv Z h292 b268 k268 .char (8 : Int32) [(.int c0), (.int c1), (.int c2), (.int c3), (.int 0), (.int 0), (.int 0), (.int 0)] (.int 0) := Arv.set Ar292 q292 Sz292 M292 H292 G292 (own_fitc rc3.nc) W292 3 rfl (wl rfl)
      have N292 := Fr.snoc X292 N286 g_b268
      have pre295 : Go p e bl T292 (mkF m 343 #[rv a1, iv p1] [(.int 4), (.ref a1), (.int 4), (.ref b268), (.ref b268), (.ref b264), (.ref b264)]) s1 EF := fun t k => pre293 t (by
       refine XS.dup X292.here hx rfl (B d16_339) rfl rfl ?_
       refine XS.iconst X292.here hx rfl (B d16_340) ?_
       refine XS.aloadN X292.here hx rfl (B d16_341) rfl rfl ?_
       exact XS.iconst X292.here hx rfl (B d16_342) k)
      obtain ⟨cl296, Ar296, q296, Sz296, M296, H296, G296⟩ := id ((((((V1.ext Et264).ext Et268).other W274 ne_a1_b268).other W280 ne_a1_b268).other W286 ne_a1_b268).other W292 ne_a1_b268)
      have hin296 := inb_of (j := (4 : Int32)) Sz296 ⟨by decide, by decide⟩
      have hat296 := Has.at (v := (.int c4)) H296 hin296 rfl
      have pre297 : Go p e bl T292 (mkF m 344 #[rv a1, iv p1] [(.int c4), (.int 4), (.ref b268), (.ref b268), (.ref b264), (.ref b264)]) s1 EF := fun t k => pre295 t (by
       exact X292.caload hx (j := 4) (v := (.int c4)) (hp e292 Ar296) (State.isArrayOf_alike hZ0.alike Ar296.2.1) Ar296.2.2 hin296 hat296 (g := (mkF m 343 #[rv a1, iv p1] [(.int 4), (.ref a1), (.int 4), (.ref b268), (.ref b268), (.ref b264), (.ref b264)])) rfl rfl (B d16_343) _ k)
      obtain ⟨cl298, Ar298, q298, Sz298, M298, H298, G298⟩ := id V292
      have hin298 := inb_of (j := (4 : Int32)) Sz298 ⟨by decide, by decide⟩
      obtain ⟨T298, h298, X298, e298, W298, st298⟩ := stC X292 hx hZ0 e292 Ar298 (j := 4) hin298 (g := (mkF m 344 #[rv a1, iv p1] [(.int c4), (.int 4), (.ref b268), (.ref b268), (.ref b264), (.ref b264)])) rfl rfl (B d16_344)
      rw [rc4.nc] at W298
      have pre299 : Go p e bl T298 (mkF m 345 #[rv a1, iv p1] [(.ref b268), (.ref b264), (.ref b264)]) s1 EF := fun t k => pre297 t (st298 t k)
      have O300 : Old Z n0 h298 := O294.wr W298 g_b268
      have Z300 : n0 ≤ h298.size := Nat.le_trans Z294 (Keep.of_wr W298).1
      have hk300 := Nat.le_trans hk294 (Keep.of_wr W298).1
      have C300 := CHv.wr W298 sf294_b268 C294
      have R300 := R294.trans (CHr.wr W298 sf294_b268 C294)
      have sf300_b264 := Safe.wr W298 sf294_b268 C294 sf294_b264
      have sf300_b268 := Safe.wr W298 sf294_b268 C294 sf294_b268
      have K300 : Keep h0 h298 [] := K294.wr W298 (Or.inr sz_b268)
      have V298 : Arv Z h298 b268 k268 .char (8 : Int32) [(.int c0), (.int c1), (.int c2), (.int c3), (.int c4), (.int 0), (.int 0), (.int 0)] (.int 0) := Arv.set Ar298 q298 Sz298 M298 H298 G298 (own_fitc rc4.nc) W298 4 rfl (wl rfl)
      have N298 := Fr.snoc X298 N292 g_b268
      have pre301 : Go p e bl T298 (mkF m 349 #[rv a1, iv p1] [(.int 5), (.ref a1), (.int 5), (.ref b268), (.ref b268), (.ref b264), (.ref b264)]) s1 EF := fun t k => pre299 t (by
       refine XS.dup X298.here hx rfl (B d16_345) rfl rfl ?_
       refine XS.iconst X298.here hx rfl (B d16_346) ?_
       refine XS.aloadN X298.here hx rfl (B d16_347) rfl rfl ?_
       exact XS.iconst X298.here hx rfl (B d16_348) k)
      obtain ⟨cl302, Ar302, q302, Sz302, M302, H302, G302⟩ := id (((((((V1.ext Et264).ext Et268).other W274 ne_a1_b268).other W280 ne_a1_b268).other W286 ne_a1_b268).other W292 ne_a1_b268).other W298 ne_a1_b268)
      have hin302 := inb_of (j := (5 : Int32)) Sz302 ⟨by decide, by decide⟩
      have hat302 := Has.at (v := (.int c5)) H302 hin302 rfl
      have pre303 : Go p e bl T298 (mkF m 350 #[rv a1, iv p1] [(.int c5), (.int 5), (.ref b268), (.ref b268), (.ref b264), (.ref b264)]) s1 EF := fun t k => pre301 t (by
       exact X298.caload hx (j := 5) (v := (.int c5)) (hp e298 Ar302) (State.isArrayOf_alike hZ0.alike Ar302.2.1) Ar302.2.2 hin302 hat302 (g := (mkF m 349 #[rv a1, iv p1] [(.int 5), (.ref a1), (.int 5), (.ref b268), (.ref b268), (.ref b264), (.ref b264)])) rfl rfl (B d16_349) _ k)
      obtain ⟨cl304, Ar304, q304, Sz304, M304, H304, G304⟩ := id V298
      have hin304 := inb_of (j := (5 : Int32)) Sz304 ⟨by decide, by decide⟩
      obtain ⟨T304, h304, X304, e304, W304, st304⟩ := stC X298 hx hZ0 e298 Ar304 (j := 5) hin304 (g := (mkF m 350 #[rv a1, iv p1] [(.int c5), (.int 5), (.ref b268), (.ref b268), (.ref b264), (.ref b264)])) rfl rfl (B d16_350)
      rw [rc5.nc] at W304
      have pre305 : Go p e bl T304 (mkF m 351 #[rv a1, iv p1] [(.ref b268), (.ref b264), (.ref b264)]) s1 EF := fun t k => pre303 t (st304 t k)
      have O306 : Old Z n0 h304 := O300.wr W304 g_b268
      have Z306 : n0 ≤ h304.size := Nat.le_trans Z300 (Keep.of_wr W304).1
      have hk306 := Nat.le_trans hk300 (Keep.of_wr W304).1
      have C306 := CHv.wr W304 sf300_b268 C300
      have R306 := R300.trans (CHr.wr W304 sf300_b268 C300)
      have sf306_b264 := Safe.wr W304 sf300_b268 C300 sf300_b264
      have sf306_b268 := Safe.wr W304 sf300_b268 C300 sf300_b268
      have K306 : Keep h0 h304 [] := K300.wr W304 (Or.inr sz_b268)
      have V304 : Arv Z h304 b268 k268 .char (8 : Int32) [(.int c0), (.int c1), (.int c2), (.int c3), (.int c4), (.int c5), (.int 0), (.int 0)] (.int 0) := Arv.set Ar304 q304 Sz304 M304 H304 G304 (own_fitc rc5.nc) W304 5 rfl (wl rfl)
      have N304 := Fr.snoc X304 N298 g_b268
      have pre307 : Go p e bl T304 (mkF m 357 #[rv a1, iv p1] [(.int 6), (.ref a1), (.int 6), (.ref b268), (.ref b268), (.ref b264), (.ref b264)]) s1 EF := fun t k => pre305 t (by
       refine XS.dup X304.here hx rfl (B d16_351) rfl rfl ?_
       refine XS.bipush X304.here hx rfl (B d16_352) ?_
       refine XS.aloadN X304.here hx rfl (B d16_354) rfl rfl ?_
       exact XS.bipush X304.here hx rfl (B d16_355) k)
      obtain ⟨cl308, Ar308, q308, Sz308, M308, H308, G308⟩ := id ((((((((V1.ext Et264).ext Et268).other W274 ne_a1_b268).other W280 ne_a1_b268).other W286 ne_a1_b268).other W292 ne_a1_b268).other W298 ne_a1_b268).other W304 ne_a1_b268)
      have hin308 := inb_of (j := (6 : Int32)) Sz308 ⟨by decide, by decide⟩
      have hat308 := Has.at (v := (.int c6)) H308 hin308 rfl
      have pre309 : Go p e bl T304 (mkF m 358 #[rv a1, iv p1] [(.int c6), (.int 6), (.ref b268), (.ref b268), (.ref b264), (.ref b264)]) s1 EF := fun t k => pre307 t (by
       exact X304.caload hx (j := 6) (v := (.int c6)) (hp e304 Ar308) (State.isArrayOf_alike hZ0.alike Ar308.2.1) Ar308.2.2 hin308 hat308 (g := (mkF m 357 #[rv a1, iv p1] [(.int 6), (.ref a1), (.int 6), (.ref b268), (.ref b268), (.ref b264), (.ref b264)])) rfl rfl (B d16_357) _ k)
      obtain ⟨cl310, Ar310, q310, Sz310, M310, H310, G310⟩ := id V304
      have hin310 := inb_of (j := (6 : Int32)) Sz310 ⟨by decide, by decide⟩
      obtain ⟨T310, h310, X310, e310, W310, st310⟩ := stC X304 hx hZ0 e304 Ar310 (j := 6) hin310 (g := (mkF m 358 #[rv a1, iv p1] [(.int c6), (.int 6), (.ref b268), (.ref b268), (.ref b264), (.ref b264)])) rfl rfl (B d16_358)
      rw [rc6.nc] at W310
      have pre311 : Go p e bl T310 (mkF m 359 #[rv a1, iv p1] [(.ref b268), (.ref b264), (.ref b264)]) s1 EF := fun t k => pre309 t (st310 t k)
      have O312 : Old Z n0 h310 := O306.wr W310 g_b268
      have Z312 : n0 ≤ h310.size := Nat.le_trans Z306 (Keep.of_wr W310).1
      have hk312 := Nat.le_trans hk306 (Keep.of_wr W310).1
      have C312 := CHv.wr W310 sf306_b268 C306
      have R312 := R306.trans (CHr.wr W310 sf306_b268 C306)
      have sf312_b264 := Safe.wr W310 sf306_b268 C306 sf306_b264
      have sf312_b268 := Safe.wr W310 sf306_b268 C306 sf306_b268
      have K312 : Keep h0 h310 [] := K306.wr W310 (Or.inr sz_b268)
      have V310 : Arv Z h310 b268 k268 .char (8 : Int32) [(.int c0), (.int c1), (.int c2), (.int c3), (.int c4), (.int c5), (.int c6), (.int 0)] (.int 0) := Arv.set Ar310 q310 Sz310 M310 H310 G310 (own_fitc rc6.nc) W310 6 rfl (wl rfl)
      have N310 := Fr.snoc X310 N304 g_b268
      have pre313 : Go p e bl T310 (mkF m 365 #[rv a1, iv p1] [(.int 7), (.ref a1), (.int 7), (.ref b268), (.ref b268), (.ref b264), (.ref b264)]) s1 EF := fun t k => pre311 t (by
       refine XS.dup X310.here hx rfl (B d16_359) rfl rfl ?_
       refine XS.bipush X310.here hx rfl (B d16_360) ?_
       refine XS.aloadN X310.here hx rfl (B d16_362) rfl rfl ?_
       exact XS.bipush X310.here hx rfl (B d16_363) k)
      obtain ⟨cl314, Ar314, q314, Sz314, M314, H314, G314⟩ := id (((((((((V1.ext Et264).ext Et268).other W274 ne_a1_b268).other W280 ne_a1_b268).other W286 ne_a1_b268).other W292 ne_a1_b268).other W298 ne_a1_b268).other W304 ne_a1_b268).other W310 ne_a1_b268)
      have hin314 := inb_of (j := (7 : Int32)) Sz314 ⟨by decide, by decide⟩
      have hat314 := Has.at (v := (.int c7)) H314 hin314 rfl
      have pre315 : Go p e bl T310 (mkF m 366 #[rv a1, iv p1] [(.int c7), (.int 7), (.ref b268), (.ref b268), (.ref b264), (.ref b264)]) s1 EF := fun t k => pre313 t (by
       exact X310.caload hx (j := 7) (v := (.int c7)) (hp e310 Ar314) (State.isArrayOf_alike hZ0.alike Ar314.2.1) Ar314.2.2 hin314 hat314 (g := (mkF m 365 #[rv a1, iv p1] [(.int 7), (.ref a1), (.int 7), (.ref b268), (.ref b268), (.ref b264), (.ref b264)])) rfl rfl (B d16_365) _ k)
      obtain ⟨cl316, Ar316, q316, Sz316, M316, H316, G316⟩ := id V310
      have hin316 := inb_of (j := (7 : Int32)) Sz316 ⟨by decide, by decide⟩
      obtain ⟨T316, h316, X316, e316, W316, st316⟩ := stC X310 hx hZ0 e310 Ar316 (j := 7) hin316 (g := (mkF m 366 #[rv a1, iv p1] [(.int c7), (.int 7), (.ref b268), (.ref b268), (.ref b264), (.ref b264)])) rfl rfl (B d16_366)
      rw [rc7.nc] at W316
      have pre317 : Go p e bl T316 (mkF m 367 #[rv a1, iv p1] [(.ref b268), (.ref b264), (.ref b264)]) s1 EF := fun t k => pre315 t (st316 t k)
      have O318 : Old Z n0 h316 := O312.wr W316 g_b268
      have Z318 : n0 ≤ h316.size := Nat.le_trans Z312 (Keep.of_wr W316).1
      have hk318 := Nat.le_trans hk312 (Keep.of_wr W316).1
      have C318 := CHv.wr W316 sf312_b268 C312
      have R318 := R312.trans (CHr.wr W316 sf312_b268 C312)
      have sf318_b264 := Safe.wr W316 sf312_b268 C312 sf312_b264
      have sf318_b268 := Safe.wr W316 sf312_b268 C312 sf312_b268
      have K318 : Keep h0 h316 [] := K312.wr W316 (Or.inr sz_b268)
      have V316 : Arv Z h316 b268 k268 .char (8 : Int32) [(.int c0), (.int c1), (.int c2), (.int c3), (.int c4), (.int c5), (.int c6), (.int c7)] (.int 0) := Arv.set Ar316 q316 Sz316 M316 H316 G316 (own_fitc rc7.nc) W316 7 rfl (wl rfl)
      have N316 := Fr.snoc X316 N310 g_b268
      obtain ⟨_, _, ⟨T319, L319, k319, n319⟩, -, X319, ⟨Lc319, hQ319, l319, y319, z319⟩, st319⟩ := X316.specialBack hx (y := mN6) rfl hown0 (mvT hZ0 (hw _ (mW 8 rfl))) (mvT hZ0 (hw _ (mW 9 rfl))) (mvT hZ0 (hw _ (mW 10 rfl))) (by decide) (backOf (W := 1) (rmKj l Z a0 hw [] b264 b268 cz fv (8 : Int32) k268 [c0, c1, c2, c3, c4, c5, c6, c7] h316 n0 Z318 O318 J0 (((((((((A264.ext Et268).wr W274).wr W280).wr W286).wr W292).wr W298).wr W304).wr W310).wr W316) g_b264 (Fld.other W316 (Fld.other W310 (Fld.other W304 (Fld.other W298 (Fld.other W292 (Fld.other W286 (Fld.other W280 (Fld.other W274 (F_value_b264.ext Et268) (Or.inl ne_b264_b268)) (Or.inl ne_b264_b268)) (Or.inl ne_b264_b268)) (Or.inl ne_b264_b268)) (Or.inl ne_b264_b268)) (Or.inl ne_b264_b268)) (Or.inl ne_b264_b268)) (Or.inl ne_b264_b268)) (Fld.other W316 (Fld.other W310 (Fld.other W304 (Fld.other W298 (Fld.other W292 (Fld.other W286 (Fld.other W280 (Fld.other W274 (F_coder_b264.ext Et268) (Or.inl ne_b264_b268)) (Or.inl ne_b264_b268)) (Or.inl ne_b264_b268)) (Or.inl ne_b264_b268)) (Or.inl ne_b264_b268)) (Or.inl ne_b264_b268)) (Or.inl ne_b264_b268)) (Or.inl ne_b264_b268)) V316 (by decide) rfl (wl rfl) (wl rfl) (List.forall_mem_cons.mpr ⟨rc0.le, (List.forall_mem_cons.mpr ⟨rc1.le, (List.forall_mem_cons.mpr ⟨rc2.le, (List.forall_mem_cons.mpr ⟨rc3.le, (List.forall_mem_cons.mpr ⟨rc4.le, (List.forall_mem_cons.mpr ⟨rc5.le, (List.forall_mem_cons.mpr ⟨rc6.le, (List.forall_mem_cons.mpr ⟨rc7.le, (fun _ q => nomatch q)⟩)⟩)⟩)⟩)⟩)⟩)⟩)⟩)) hZ0 (hw _ (mW 10 rfl)) (hw _ (mW 7 rfl)) (by decide) (by decide)) (g := (mkF m 367 #[rv a1, iv p1] [(.ref b268), (.ref b264), (.ref b264)])) rfl (hM rfl) (Steps.refl _) (a := b264) (argsL := [(.ref b268)]) (rest := [(.ref b264)]) (lenOf pd12 rfl) rfl (Nat.le_of_eq rfl) (B d16_367) (fun _ _ => ⟨rfl, e316, wl rfl, wl rfl⟩)
      dsimp only [Pt.U, Pt.locs, Pt.cells, Pt.slots] at X319 l319 y319 z319 st319 hQ319
      subst l319 y319 z319
      obtain ⟨rfl, N319q, K319, bv319, kb319, hsz319, SF319⟩ := hQ319
      have N319 := Fr.app N316 N319q
      have pre320 : Go p e bl T319 (mkF m 370 #[rv a1, iv p1] [(.ref b264)]) s1 EF := fun t k => pre317 t (st319.trans k)
      have O321 : Old Z n0 T319.heap := O318.keep K319 (allS g_b264 all0)
      have Z321 : n0 ≤ T319.heap.size := Nat.le_trans Z318 K319.1
      have hk321 := Nat.le_trans hk318 K319.1
      have C321 := CHv.keep K319 (sfS sf318_b264 sf0) C318
      have R321 := R318.trans (CHr.keep K319 (sfS sf318_b264 sf0) C318)
      have sf321_b264 := Safe.keep K319 (sfS sf318_b264 sf0) C318 sf318_b264
      have sf321_b268 := Safe.keep K319 (sfS sf318_b264 sf0) C318 sf318_b268
      have K321 : Keep h0 T319.heap [] := K318.trans K319 (allS (Or.inr sz_b264) all0)
      obtain ⟨fs, hr, hrun, hended, hend1, hend2, hend3, hsame⟩ := X319.leaveW hS0 hk321 (v := some (.ref b264)) (fun h => by rw [Bd.returns] at h; cases h)
      have hCH : CHr Z [("com/example/picketline/picketline/protocol/Protocol", 37), ("com/example/picketline/picketline/protocol/ProtocolNamedPinLaw", 20), ("com/example/picketline/picketline/protocol/ProtocolNamedPinLaw", 42), ("java/lang/String", 7)] s.vm s.heap T319.vm T319.heap := by rw [hh]; exact R321.trans (CHv.at X319 hZ0 (own_EW hw) C321)
      refine ⟨_, _, hEF ▸ pre320 _ (retOut X319 hx Bd.returns rfl (Or.inr (Or.inr (Or.inr (Or.inr ⟨rfl, rfl, rfl⟩)))) (B d16_370) hr), hrun, hended, _, _, rfl, ?_, hCH, hend1, hend2, hend3, hsame.mono (by decide) (by decide)⟩
      show QPx Z a1 p1 cz fv kc c0 c1 c2 c3 c4 c5 c6 c7 c8 c9 h0 n0 _ T319.heap _
      exact ⟨_, _, _, _, _, rfl, N319, K321, sz_b264, SF319, by rfl⟩
    have pre322 : Go p e bl s1 (mkF m 371 #[rv a1, iv p1] []) s1 EF := fun t k => pre262 t (XS.icmpYes X0.here hx rfl (pc0 := 304) (pc' := 371) rfl (B d16_304) rfl (feq hc304).2 (by decide) (by decide) k)
    have pre323 : Go p e bl s1 (mkF m 374 #[rv a1, iv p1] [(.int 9), (.int p1)]) s1 EF := fun t k => pre322 t (by
     refine XS.iloadN X0.here hx rfl (B d16_371) rfl ?_
     exact XS.bipush X0.here hx rfl (B d16_372) k)
    by_cases hc374 : p1 = (9 : Int32)
    · have pre324 : Go p e bl s1 (mkF m 377 #[rv a1, iv p1] []) s1 EF := fun t k => pre323 t (XS.icmpNo X0.here hx rfl (B d16_374) rfl (teq hc374).2 k)
      obtain ⟨T325, h325, X325, e325, Et325, A325, D325, U325, st325⟩ := newO X0 hx hZ0 hown0 (hw _ (mW 5 rfl)) (hw _ (mW 6 rfl)) (hw _ (mW 7 rfl)) e0 (g := (mkF m 377 #[rv a1, iv p1] [])) rfl (B d16_377) (by decide) (by decide)
      obtain ⟨b325, g325⟩ : ∃ z, z = h0.size := ⟨_, rfl⟩
      rw [← g325] at A325 st325 D325
      have g_b325 : n0 ≤ b325 := Nat.le_trans Z0 (Nat.le_of_eq g325.symm)
      have sz_b325 : h0.size ≤ b325 := Nat.le_trans (Keep.refl h0 []).1 (Nat.le_of_eq g325.symm)
      have sfn_b325 : Safe Z [("com/example/picketline/picketline/protocol/Protocol", 37), ("com/example/picketline/picketline/protocol/ProtocolNamedPinLaw", 20), ("com/example/picketline/picketline/protocol/ProtocolNamedPinLaw", 42), ("java/lang/String", 7)] s.vm h0 b325 := Safe.new (Nat.le_of_eq g325.symm)
      have ne_a1_b325 : a1 ≠ b325 := Nat.ne_of_lt (Nat.lt_of_lt_of_le V1.lt (Nat.le_of_eq g325.symm))
      have pre326 : Go p e bl T325 (mkF m 380 #[rv a1, iv p1] [(.ref b325)]) s1 EF := fun t k => pre324 t (st325 t k)
      have O327 : Old Z n0 h325 := O0.ext Et325
      have Z327 : n0 ≤ h325.size := Nat.le_trans Z0 Et325.1
      have hk327 := Nat.le_trans hk0 Et325.1
      have C327 := CHv.ext Et325 hC
      have R327 := (CHr.refl hC).trans (CHr.ext Et325 hC)
      have sf327_b325 := Safe.ext Et325 hC sfn_b325
      have K327 : Keep h0 h325 [] := (Keep.refl h0 []).ext Et325
      have F_coder_b325 : Fld Z h325 b325 "java/lang/String" "coder" "B" (.int 0) := D325 (Or.inr (hw _ (mW 31 rfl))) (ty := .byte) (by decide)
      have F_value_b325 : Fld Z h325 b325 "java/lang/String" "value" "[B" .null := D325 (Or.inr (hw _ (mW 33 rfl))) (ty := (.array .byte)) (by decide)
      have pre328 : Go p e bl T325 (mkF m 383 #[rv a1, iv p1] [(.int 9), (.ref b325), (.ref b325)]) s1 EF := fun t k => pre326 t (by
       refine XS.dup X325.here hx rfl (B d16_380) rfl rfl ?_
       exact XS.bipush X325.here hx rfl (B d16_381) k)
      obtain ⟨T329, h329, k329, X329, e329, Et329, A329, st329⟩ := newP X325 hx hZ0 (hw _ (mW 0 rfl)) e325 (g := (mkF m 383 #[rv a1, iv p1] [(.int 9), (.ref b325), (.ref b325)])) rfl (B d16_383) rfl (by decide) (cap := 9) (by decide) (by decide) (by decide) (by decide)
      obtain ⟨b329, g329⟩ : ∃ z, z = h325.size := ⟨_, rfl⟩
      rw [← g329] at A329 st329
      have g_b329 : n0 ≤ b329 := Nat.le_trans Z327 (Nat.le_of_eq g329.symm)
      have sz_b329 : h0.size ≤ b329 := Nat.le_trans K327.1 (Nat.le_of_eq g329.symm)
      have sfn_b329 : Safe Z [("com/example/picketline/picketline/protocol/Protocol", 37), ("com/example/picketline/picketline/protocol/ProtocolNamedPinLaw", 20), ("com/example/picketline/picketline/protocol/ProtocolNamedPinLaw", 42), ("java/lang/String", 7)] s.vm h325 b329 := Safe.new (Nat.le_of_eq g329.symm)
      have ne_a1_b329 : a1 ≠ b329 := Nat.ne_of_lt (Nat.lt_of_lt_of_le (V1.ext Et325).lt (Nat.le_of_eq g329.symm))
      have ne_b325_b329 : b325 ≠ b329 := Nat.ne_of_lt (Nat.lt_of_lt_of_le A325.lt (Nat.le_of_eq g329.symm))
      have pre330 : Go p e bl T329 (mkF m 385 #[rv a1, iv p1] [(.ref b329), (.ref b325), (.ref b325)]) s1 EF := fun t k => pre328 t (st329 t k)
      have O331 : Old Z n0 h329 := O327.ext Et329
      have Z331 : n0 ≤ h329.size := Nat.le_trans Z327 Et329.1
      have hk331 := Nat.le_trans hk327 Et329.1
      have C331 := CHv.ext Et329 C327
      have R331 := R327.trans (CHr.ext Et329 C327)
      have sf331_b325 := Safe.ext Et329 C327 sf327_b325
      have sf331_b329 := Safe.ext Et329 C327 sfn_b329
      have K331 : Keep h0 h329 [] := K327.ext Et329
      have V329 : Arv Z h329 b329 k329 .char (9 : Int32) [(.int 0), (.int 0), (.int 0), (.int 0), (.int 0), (.int 0), (.int 0), (.int 0), (.int 0)] (.int 0) := (Arv.new A329 (by decide)).pad (pad_rep [] (.int 0) 9)
      have pre332 : Go p e bl T329 (mkF m 389 #[rv a1, iv p1] [(.int 0), (.ref a1), (.int 0), (.ref b329), (.ref b329), (.ref b325), (.ref b325)]) s1 EF := fun t k => pre330 t (by
       refine XS.dup X329.here hx rfl (B d16_385) rfl rfl ?_
       refine XS.iconst X329.here hx rfl (B d16_386) ?_
       refine XS.aloadN X329.here hx rfl (B d16_387) rfl rfl ?_
       exact XS.iconst X329.here hx rfl (B d16_388) k)
      obtain ⟨cl333, Ar333, q333, Sz333, M333, H333, G333⟩ := id ((V1.ext Et325).ext Et329)
      have hin333 := inb_of (j := (0 : Int32)) Sz333 ⟨by decide, by decide⟩
      have hat333 := Has.at (v := (.int c0)) H333 hin333 rfl
      have pre334 : Go p e bl T329 (mkF m 390 #[rv a1, iv p1] [(.int c0), (.int 0), (.ref b329), (.ref b329), (.ref b325), (.ref b325)]) s1 EF := fun t k => pre332 t (by
       exact X329.caload hx (j := 0) (v := (.int c0)) (hp e329 Ar333) (State.isArrayOf_alike hZ0.alike Ar333.2.1) Ar333.2.2 hin333 hat333 (g := (mkF m 389 #[rv a1, iv p1] [(.int 0), (.ref a1), (.int 0), (.ref b329), (.ref b329), (.ref b325), (.ref b325)])) rfl rfl (B d16_389) _ k)
      obtain ⟨cl335, Ar335, q335, Sz335, M335, H335, G335⟩ := id V329
      have hin335 := inb_of (j := (0 : Int32)) Sz335 ⟨by decide, by decide⟩
      obtain ⟨T335, h335, X335, e335, W335, st335⟩ := stC X329 hx hZ0 e329 Ar335 (j := 0) hin335 (g := (mkF m 390 #[rv a1, iv p1] [(.int c0), (.int 0), (.ref b329), (.ref b329), (.ref b325), (.ref b325)])) rfl rfl (B d16_390)
      rw [rc0.nc] at W335
      have pre336 : Go p e bl T335 (mkF m 391 #[rv a1, iv p1] [(.ref b329), (.ref b325), (.ref b325)]) s1 EF := fun t k => pre334 t (st335 t k)
      have O337 : Old Z n0 h335 := O331.wr W335 g_b329
      have Z337 : n0 ≤ h335.size := Nat.le_trans Z331 (Keep.of_wr W335).1
      have hk337 := Nat.le_trans hk331 (Keep.of_wr W335).1
      have C337 := CHv.wr W335 sf331_b329 C331
      have R337 := R331.trans (CHr.wr W335 sf331_b329 C331)
      have sf337_b325 := Safe.wr W335 sf331_b329 C331 sf331_b325
      have sf337_b329 := Safe.wr W335 sf331_b329 C331 sf331_b329
      have K337 : Keep h0 h335 [] := K331.wr W335 (Or.inr sz_b329)
      have V335 : Arv Z h335 b329 k329 .char (9 : Int32) [(.int c0), (.int 0), (.int 0), (.int 0), (.int 0), (.int 0), (.int 0), (.int 0), (.int 0)] (.int 0) := Arv.set Ar335 q335 Sz335 M335 H335 G335 (own_fitc rc0.nc) W335 0 rfl (wl rfl)
      have N335 := Fr.snoc X335 N0 g_b329
      have pre338 : Go p e bl T335 (mkF m 395 #[rv a1, iv p1] [(.int 1), (.ref a1), (.int 1), (.ref b329), (.ref b329), (.ref b325), (.ref b325)]) s1 EF := fun t k => pre336 t (by
       refine XS.dup X335.here hx rfl (B d16_391) rfl rfl ?_
       refine XS.iconst X335.here hx rfl (B d16_392) ?_
       refine XS.aloadN X335.here hx rfl (B d16_393) rfl rfl ?_
       exact XS.iconst X335.here hx rfl (B d16_394) k)
      obtain ⟨cl339, Ar339, q339, Sz339, M339, H339, G339⟩ := id (((V1.ext Et325).ext Et329).other W335 ne_a1_b329)
      have hin339 := inb_of (j := (1 : Int32)) Sz339 ⟨by decide, by decide⟩
      have hat339 := Has.at (v := (.int c1)) H339 hin339 rfl
      have pre340 : Go p e bl T335 (mkF m 396 #[rv a1, iv p1] [(.int c1), (.int 1), (.ref b329), (.ref b329), (.ref b325), (.ref b325)]) s1 EF := fun t k => pre338 t (by
       exact X335.caload hx (j := 1) (v := (.int c1)) (hp e335 Ar339) (State.isArrayOf_alike hZ0.alike Ar339.2.1) Ar339.2.2 hin339 hat339 (g := (mkF m 395 #[rv a1, iv p1] [(.int 1), (.ref a1), (.int 1), (.ref b329), (.ref b329), (.ref b325), (.ref b325)])) rfl rfl (B d16_395) _ k)
      obtain ⟨cl341, Ar341, q341, Sz341, M341, H341, G341⟩ := id V335
      have hin341 := inb_of (j := (1 : Int32)) Sz341 ⟨by decide, by decide⟩
      obtain ⟨T341, h341, X341, e341, W341, st341⟩ := stC X335 hx hZ0 e335 Ar341 (j := 1) hin341 (g := (mkF m 396 #[rv a1, iv p1] [(.int c1), (.int 1), (.ref b329), (.ref b329), (.ref b325), (.ref b325)])) rfl rfl (B d16_396)
      rw [rc1.nc] at W341
      have pre342 : Go p e bl T341 (mkF m 397 #[rv a1, iv p1] [(.ref b329), (.ref b325), (.ref b325)]) s1 EF := fun t k => pre340 t (st341 t k)
      have O343 : Old Z n0 h341 := O337.wr W341 g_b329
      have Z343 : n0 ≤ h341.size := Nat.le_trans Z337 (Keep.of_wr W341).1
      have hk343 := Nat.le_trans hk337 (Keep.of_wr W341).1
      have C343 := CHv.wr W341 sf337_b329 C337
      have R343 := R337.trans (CHr.wr W341 sf337_b329 C337)
      have sf343_b325 := Safe.wr W341 sf337_b329 C337 sf337_b325
      have sf343_b329 := Safe.wr W341 sf337_b329 C337 sf337_b329
      have K343 : Keep h0 h341 [] := K337.wr W341 (Or.inr sz_b329)
      have V341 : Arv Z h341 b329 k329 .char (9 : Int32) [(.int c0), (.int c1), (.int 0), (.int 0), (.int 0), (.int 0), (.int 0), (.int 0), (.int 0)] (.int 0) := Arv.set Ar341 q341 Sz341 M341 H341 G341 (own_fitc rc1.nc) W341 1 rfl (wl rfl)
      have N341 := Fr.snoc X341 N335 g_b329
      have pre344 : Go p e bl T341 (mkF m 401 #[rv a1, iv p1] [(.int 2), (.ref a1), (.int 2), (.ref b329), (.ref b329), (.ref b325), (.ref b325)]) s1 EF := fun t k => pre342 t (by
       refine XS.dup X341.here hx rfl (B d16_397) rfl rfl ?_
       refine XS.iconst X341.here hx rfl (B d16_398) ?_
       refine XS.aloadN X341.here hx rfl (B d16_399) rfl rfl ?_
       exact XS.iconst X341.here hx rfl (B d16_400) k)
      obtain ⟨cl345, Ar345, q345, Sz345, M345, H345, G345⟩ := id ((((V1.ext Et325).ext Et329).other W335 ne_a1_b329).other W341 ne_a1_b329)
      have hin345 := inb_of (j := (2 : Int32)) Sz345 ⟨by decide, by decide⟩
      have hat345 := Has.at (v := (.int c2)) H345 hin345 rfl
      have pre346 : Go p e bl T341 (mkF m 402 #[rv a1, iv p1] [(.int c2), (.int 2), (.ref b329), (.ref b329), (.ref b325), (.ref b325)]) s1 EF := fun t k => pre344 t (by
       exact X341.caload hx (j := 2) (v := (.int c2)) (hp e341 Ar345) (State.isArrayOf_alike hZ0.alike Ar345.2.1) Ar345.2.2 hin345 hat345 (g := (mkF m 401 #[rv a1, iv p1] [(.int 2), (.ref a1), (.int 2), (.ref b329), (.ref b329), (.ref b325), (.ref b325)])) rfl rfl (B d16_401) _ k)
      obtain ⟨cl347, Ar347, q347, Sz347, M347, H347, G347⟩ := id V341
      have hin347 := inb_of (j := (2 : Int32)) Sz347 ⟨by decide, by decide⟩
      obtain ⟨T347, h347, X347, e347, W347, st347⟩ := stC X341 hx hZ0 e341 Ar347 (j := 2) hin347 (g := (mkF m 402 #[rv a1, iv p1] [(.int c2), (.int 2), (.ref b329), (.ref b329), (.ref b325), (.ref b325)])) rfl rfl (B d16_402)
      rw [rc2.nc] at W347
      have pre348 : Go p e bl T347 (mkF m 403 #[rv a1, iv p1] [(.ref b329), (.ref b325), (.ref b325)]) s1 EF := fun t k => pre346 t (st347 t k)
      have O349 : Old Z n0 h347 := O343.wr W347 g_b329
      have Z349 : n0 ≤ h347.size := Nat.le_trans Z343 (Keep.of_wr W347).1
      have hk349 := Nat.le_trans hk343 (Keep.of_wr W347).1
      have C349 := CHv.wr W347 sf343_b329 C343
      have R349 := R343.trans (CHr.wr W347 sf343_b329 C343)
      have sf349_b325 := Safe.wr W347 sf343_b329 C343 sf343_b325
      have sf349_b329 := Safe.wr W347 sf343_b329 C343 sf343_b329
      have K349 : Keep h0 h347 [] := K343.wr W347 (Or.inr sz_b329)
      have V347 : Arv Z h347 b329 k329 .char (9 : Int32) [(.int c0), (.int c1), (.int c2), (.int 0), (.int 0), (.int 0), (.int 0), (.int 0), (.int 0)] (.int 0) := Arv.set Ar347 q347 Sz347 M347 H347 G347 (own_fitc rc2.nc) W347 2 rfl (wl rfl)
      have N347 := Fr.snoc X347 N341 g_b329
      have pre350 : Go p e bl T347 (mkF m 407 #[rv a1, iv p1] [(.int 3), (.ref a1), (.int 3), (.ref b329), (.ref b329), (.ref b325), (.ref b325)]) s1 EF := fun t k => pre348 t (by
       refine XS.dup X347.here hx rfl (B d16_403) rfl rfl ?_
       refine XS.iconst X347.here hx rfl (B d16_404) ?_
       refine XS.aloadN X347.here hx rfl (B d16_405) rfl rfl ?_
       exact XS.iconst X347.here hx rfl (B d16_406) k)
      obtain ⟨cl351, Ar351, q351, Sz351, M351, H351, G351⟩ := id (((((V1.ext Et325).ext Et329).other W335 ne_a1_b329).other W341 ne_a1_b329).other W347 ne_a1_b329)
      have hin351 := inb_of (j := (3 : Int32)) Sz351 ⟨by decide, by decide⟩
      have hat351 := Has.at (v := (.int c3)) H351 hin351 rfl
      have pre352 : Go p e bl T347 (mkF m 408 #[rv a1, iv p1] [(.int c3), (.int 3), (.ref b329), (.ref b329), (.ref b325), (.ref b325)]) s1 EF := fun t k => pre350 t (by
       exact X347.caload hx (j := 3) (v := (.int c3)) (hp e347 Ar351) (State.isArrayOf_alike hZ0.alike Ar351.2.1) Ar351.2.2 hin351 hat351 (g := (mkF m 407 #[rv a1, iv p1] [(.int 3), (.ref a1), (.int 3), (.ref b329), (.ref b329), (.ref b325), (.ref b325)])) rfl rfl (B d16_407) _ k)
      obtain ⟨cl353, Ar353, q353, Sz353, M353, H353, G353⟩ := id V347
      have hin353 := inb_of (j := (3 : Int32)) Sz353 ⟨by decide, by decide⟩
      obtain ⟨T353, h353, X353, e353, W353, st353⟩ := stC X347 hx hZ0 e347 Ar353 (j := 3) hin353 (g := (mkF m 408 #[rv a1, iv p1] [(.int c3), (.int 3), (.ref b329), (.ref b329), (.ref b325), (.ref b325)])) rfl rfl (B d16_408)
      rw [rc3.nc] at W353
      have pre354 : Go p e bl T353 (mkF m 409 #[rv a1, iv p1] [(.ref b329), (.ref b325), (.ref b325)]) s1 EF := fun t k => pre352 t (st353 t k)
      have O355 : Old Z n0 h353 := O349.wr W353 g_b329
      have Z355 : n0 ≤ h353.size := Nat.le_trans Z349 (Keep.of_wr W353).1
      have hk355 := Nat.le_trans hk349 (Keep.of_wr W353).1
      have C355 := CHv.wr W353 sf349_b329 C349
      have R355 := R349.trans (CHr.wr W353 sf349_b329 C349)
      have sf355_b325 := Safe.wr W353 sf349_b329 C349 sf349_b325
      have sf355_b329 := Safe.wr W353 sf349_b329 C349 sf349_b329
      have K355 : Keep h0 h353 [] := K349.wr W353 (Or.inr sz_b329)
      have V353 : Arv Z h353 b329 k329 .char (9 : Int32) [(.int c0), (.int c1), (.int c2), (.int c3), (.int 0), (.int 0), (.int 0), (.int 0), (.int 0)] (.int 0) := Arv.set Ar353 q353 Sz353 M353 H353 G353 (own_fitc rc3.nc) W353 3 rfl (wl rfl)
      have N353 := Fr.snoc X353 N347 g_b329
      have pre356 : Go p e bl T353 (mkF m 413 #[rv a1, iv p1] [(.int 4), (.ref a1), (.int 4), (.ref b329), (.ref b329), (.ref b325), (.ref b325)]) s1 EF := fun t k => pre354 t (by
       refine XS.dup X353.here hx rfl (B d16_409) rfl rfl ?_
       refine XS.iconst X353.here hx rfl (B d16_410) ?_
       refine XS.aloadN X353.here hx rfl (B d16_411) rfl rfl ?_
       exact XS.iconst X353.here hx rfl (B d16_412) k)
      obtain ⟨cl357, Ar357, q357, Sz357, M357, H357, G357⟩ := id ((((((V1.ext Et325).ext Et329).other W335 ne_a1_b329).other W341 ne_a1_b329).other W347 ne_a1_b329).other W353 ne_a1_b329)
      have hin357 := inb_of (j := (4 : Int32)) Sz357 ⟨by decide, by decide⟩
      have hat357 := Has.at (v := (.int c4)) H357 hin357 rfl
      have pre358 : Go p e bl T353 (mkF m 414 #[rv a1, iv p1] [(.int c4), (.int 4), (.ref b329), (.ref b329), (.ref b325), (.ref b325)]) s1 EF := fun t k => pre356 t (by
       exact X353.caload hx (j := 4) (v := (.int c4)) (hp e353 Ar357) (State.isArrayOf_alike hZ0.alike Ar357.2.1) Ar357.2.2 hin357 hat357 (g := (mkF m 413 #[rv a1, iv p1] [(.int 4), (.ref a1), (.int 4), (.ref b329), (.ref b329), (.ref b325), (.ref b325)])) rfl rfl (B d16_413) _ k)
      obtain ⟨cl359, Ar359, q359, Sz359, M359, H359, G359⟩ := id V353
      have hin359 := inb_of (j := (4 : Int32)) Sz359 ⟨by decide, by decide⟩
      obtain ⟨T359, h359, X359, e359, W359, st359⟩ := stC X353 hx hZ0 e353 Ar359 (j := 4) hin359 (g := (mkF m 414 #[rv a1, iv p1] [(.int c4), (.int 4), (.ref b329), (.ref b329), (.ref b325), (.ref b325)])) rfl rfl (B d16_414)
      rw [rc4.nc] at W359
      have pre360 : Go p e bl T359 (mkF m 415 #[rv a1, iv p1] [(.ref b329), (.ref b325), (.ref b325)]) s1 EF := fun t k => pre358 t (st359 t k)
      have O361 : Old Z n0 h359 := O355.wr W359 g_b329
      have Z361 : n0 ≤ h359.size := Nat.le_trans Z355 (Keep.of_wr W359).1
      have hk361 := Nat.le_trans hk355 (Keep.of_wr W359).1
      have C361 := CHv.wr W359 sf355_b329 C355
      have R361 := R355.trans (CHr.wr W359 sf355_b329 C355)
      have sf361_b325 := Safe.wr W359 sf355_b329 C355 sf355_b325
      have sf361_b329 := Safe.wr W359 sf355_b329 C355 sf355_b329
      have K361 : Keep h0 h359 [] := K355.wr W359 (Or.inr sz_b329)
      have V359 : Arv Z h359 b329 k329 .char (9 : Int32) [(.int c0), (.int c1), (.int c2), (.int c3), (.int c4), (.int 0), (.int 0), (.int 0), (.int 0)] (.int 0) := Arv.set Ar359 q359 Sz359 M359 H359 G359 (own_fitc rc4.nc) W359 4 rfl (wl rfl)
      have N359 := Fr.snoc X359 N353 g_b329
      have pre362 : Go p e bl T359 (mkF m 419 #[rv a1, iv p1] [(.int 5), (.ref a1), (.int 5), (.ref b329), (.ref b329), (.ref b325), (.ref b325)]) s1 EF := fun t k => pre360 t (by
       refine XS.dup X359.here hx rfl (B d16_415) rfl rfl ?_
       refine XS.iconst X359.here hx rfl (B d16_416) ?_
       refine XS.aloadN X359.here hx rfl (B d16_417) rfl rfl ?_
       exact XS.iconst X359.here hx rfl (B d16_418) k)
      obtain ⟨cl363, Ar363, q363, Sz363, M363, H363, G363⟩ := id (((((((V1.ext Et325).ext Et329).other W335 ne_a1_b329).other W341 ne_a1_b329).other W347 ne_a1_b329).other W353 ne_a1_b329).other W359 ne_a1_b329)
      have hin363 := inb_of (j := (5 : Int32)) Sz363 ⟨by decide, by decide⟩
      have hat363 := Has.at (v := (.int c5)) H363 hin363 rfl
      have pre364 : Go p e bl T359 (mkF m 420 #[rv a1, iv p1] [(.int c5), (.int 5), (.ref b329), (.ref b329), (.ref b325), (.ref b325)]) s1 EF := fun t k => pre362 t (by
       exact X359.caload hx (j := 5) (v := (.int c5)) (hp e359 Ar363) (State.isArrayOf_alike hZ0.alike Ar363.2.1) Ar363.2.2 hin363 hat363 (g := (mkF m 419 #[rv a1, iv p1] [(.int 5), (.ref a1), (.int 5), (.ref b329), (.ref b329), (.ref b325), (.ref b325)])) rfl rfl (B d16_419) _ k)
      obtain ⟨cl365, Ar365, q365, Sz365, M365, H365, G365⟩ := id V359
      have hin365 := inb_of (j := (5 : Int32)) Sz365 ⟨by decide, by decide⟩
      obtain ⟨T365, h365, X365, e365, W365, st365⟩ := stC X359 hx hZ0 e359 Ar365 (j := 5) hin365 (g := (mkF m 420 #[rv a1, iv p1] [(.int c5), (.int 5), (.ref b329), (.ref b329), (.ref b325), (.ref b325)])) rfl rfl (B d16_420)
      rw [rc5.nc] at W365
      have pre366 : Go p e bl T365 (mkF m 421 #[rv a1, iv p1] [(.ref b329), (.ref b325), (.ref b325)]) s1 EF := fun t k => pre364 t (st365 t k)
      have O367 : Old Z n0 h365 := O361.wr W365 g_b329
      have Z367 : n0 ≤ h365.size := Nat.le_trans Z361 (Keep.of_wr W365).1
      have hk367 := Nat.le_trans hk361 (Keep.of_wr W365).1
      have C367 := CHv.wr W365 sf361_b329 C361
      have R367 := R361.trans (CHr.wr W365 sf361_b329 C361)
      have sf367_b325 := Safe.wr W365 sf361_b329 C361 sf361_b325
      have sf367_b329 := Safe.wr W365 sf361_b329 C361 sf361_b329
      have K367 : Keep h0 h365 [] := K361.wr W365 (Or.inr sz_b329)
      have V365 : Arv Z h365 b329 k329 .char (9 : Int32) [(.int c0), (.int c1), (.int c2), (.int c3), (.int c4), (.int c5), (.int 0), (.int 0), (.int 0)] (.int 0) := Arv.set Ar365 q365 Sz365 M365 H365 G365 (own_fitc rc5.nc) W365 5 rfl (wl rfl)
      have N365 := Fr.snoc X365 N359 g_b329
      have pre368 : Go p e bl T365 (mkF m 427 #[rv a1, iv p1] [(.int 6), (.ref a1), (.int 6), (.ref b329), (.ref b329), (.ref b325), (.ref b325)]) s1 EF := fun t k => pre366 t (by
       refine XS.dup X365.here hx rfl (B d16_421) rfl rfl ?_
       refine XS.bipush X365.here hx rfl (B d16_422) ?_
       refine XS.aloadN X365.here hx rfl (B d16_424) rfl rfl ?_
       exact XS.bipush X365.here hx rfl (B d16_425) k)
      obtain ⟨cl369, Ar369, q369, Sz369, M369, H369, G369⟩ := id ((((((((V1.ext Et325).ext Et329).other W335 ne_a1_b329).other W341 ne_a1_b329).other W347 ne_a1_b329).other W353 ne_a1_b329).other W359 ne_a1_b329).other W365 ne_a1_b329)
      have hin369 := inb_of (j := (6 : Int32)) Sz369 ⟨by decide, by decide⟩
      have hat369 := Has.at (v := (.int c6)) H369 hin369 rfl
      have pre370 : Go p e bl T365 (mkF m 428 #[rv a1, iv p1] [(.int c6), (.int 6), (.ref b329), (.ref b329), (.ref b325), (.ref b325)]) s1 EF := fun t k => pre368 t (by
       exact X365.caload hx (j := 6) (v := (.int c6)) (hp e365 Ar369) (State.isArrayOf_alike hZ0.alike Ar369.2.1) Ar369.2.2 hin369 hat369 (g := (mkF m 427 #[rv a1, iv p1] [(.int 6), (.ref a1), (.int 6), (.ref b329), (.ref b329), (.ref b325), (.ref b325)])) rfl rfl (B d16_427) _ k)
      obtain ⟨cl371, Ar371, q371, Sz371, M371, H371, G371⟩ := id V365
      have hin371 := inb_of (j := (6 : Int32)) Sz371 ⟨by decide, by decide⟩
      obtain ⟨T371, h371, X371, e371, W371, st371⟩ := stC X365 hx hZ0 e365 Ar371 (j := 6) hin371 (g := (mkF m 428 #[rv a1, iv p1] [(.int c6), (.int 6), (.ref b329), (.ref b329), (.ref b325), (.ref b325)])) rfl rfl (B d16_428)
      rw [rc6.nc] at W371
      have pre372 : Go p e bl T371 (mkF m 429 #[rv a1, iv p1] [(.ref b329), (.ref b325), (.ref b325)]) s1 EF := fun t k => pre370 t (st371 t k)
      have O373 : Old Z n0 h371 := O367.wr W371 g_b329
      have Z373 : n0 ≤ h371.size := Nat.le_trans Z367 (Keep.of_wr W371).1
      have hk373 := Nat.le_trans hk367 (Keep.of_wr W371).1
      have C373 := CHv.wr W371 sf367_b329 C367
      have R373 := R367.trans (CHr.wr W371 sf367_b329 C367)
      have sf373_b325 := Safe.wr W371 sf367_b329 C367 sf367_b325
      have sf373_b329 := Safe.wr W371 sf367_b329 C367 sf367_b329
      have K373 : Keep h0 h371 [] := K367.wr W371 (Or.inr sz_b329)
      have V371 : Arv Z h371 b329 k329 .char (9 : Int32) [(.int c0), (.int c1), (.int c2), (.int c3), (.int c4), (.int c5), (.int c6), (.int 0), (.int 0)] (.int 0) := Arv.set Ar371 q371 Sz371 M371 H371 G371 (own_fitc rc6.nc) W371 6 rfl (wl rfl)
      have N371 := Fr.snoc X371 N365 g_b329
      have pre374 : Go p e bl T371 (mkF m 435 #[rv a1, iv p1] [(.int 7), (.ref a1), (.int 7), (.ref b329), (.ref b329), (.ref b325), (.ref b325)]) s1 EF := fun t k => pre372 t (by
       refine XS.dup X371.here hx rfl (B d16_429) rfl rfl ?_
       refine XS.bipush X371.here hx rfl (B d16_430) ?_
       refine XS.aloadN X371.here hx rfl (B d16_432) rfl rfl ?_
       exact XS.bipush X371.here hx rfl (B d16_433) k)
      obtain ⟨cl375, Ar375, q375, Sz375, M375, H375, G375⟩ := id (((((((((V1.ext Et325).ext Et329).other W335 ne_a1_b329).other W341 ne_a1_b329).other W347 ne_a1_b329).other W353 ne_a1_b329).other W359 ne_a1_b329).other W365 ne_a1_b329).other W371 ne_a1_b329)
      have hin375 := inb_of (j := (7 : Int32)) Sz375 ⟨by decide, by decide⟩
      have hat375 := Has.at (v := (.int c7)) H375 hin375 rfl
      have pre376 : Go p e bl T371 (mkF m 436 #[rv a1, iv p1] [(.int c7), (.int 7), (.ref b329), (.ref b329), (.ref b325), (.ref b325)]) s1 EF := fun t k => pre374 t (by
       exact X371.caload hx (j := 7) (v := (.int c7)) (hp e371 Ar375) (State.isArrayOf_alike hZ0.alike Ar375.2.1) Ar375.2.2 hin375 hat375 (g := (mkF m 435 #[rv a1, iv p1] [(.int 7), (.ref a1), (.int 7), (.ref b329), (.ref b329), (.ref b325), (.ref b325)])) rfl rfl (B d16_435) _ k)
      obtain ⟨cl377, Ar377, q377, Sz377, M377, H377, G377⟩ := id V371
      have hin377 := inb_of (j := (7 : Int32)) Sz377 ⟨by decide, by decide⟩
      obtain ⟨T377, h377, X377, e377, W377, st377⟩ := stC X371 hx hZ0 e371 Ar377 (j := 7) hin377 (g := (mkF m 436 #[rv a1, iv p1] [(.int c7), (.int 7), (.ref b329), (.ref b329), (.ref b325), (.ref b325)])) rfl rfl (B d16_436)
      rw [rc7.nc] at W377
      have pre378 : Go p e bl T377 (mkF m 437 #[rv a1, iv p1] [(.ref b329), (.ref b325), (.ref b325)]) s1 EF := fun t k => pre376 t (st377 t k)
      have O379 : Old Z n0 h377 := O373.wr W377 g_b329
      have Z379 : n0 ≤ h377.size := Nat.le_trans Z373 (Keep.of_wr W377).1
      have hk379 := Nat.le_trans hk373 (Keep.of_wr W377).1
      have C379 := CHv.wr W377 sf373_b329 C373
      have R379 := R373.trans (CHr.wr W377 sf373_b329 C373)
      have sf379_b325 := Safe.wr W377 sf373_b329 C373 sf373_b325
      have sf379_b329 := Safe.wr W377 sf373_b329 C373 sf373_b329
      have K379 : Keep h0 h377 [] := K373.wr W377 (Or.inr sz_b329)
      have V377 : Arv Z h377 b329 k329 .char (9 : Int32) [(.int c0), (.int c1), (.int c2), (.int c3), (.int c4), (.int c5), (.int c6), (.int c7), (.int 0)] (.int 0) := Arv.set Ar377 q377 Sz377 M377 H377 G377 (own_fitc rc7.nc) W377 7 rfl (wl rfl)
      have N377 := Fr.snoc X377 N371 g_b329
      have pre380 : Go p e bl T377 (mkF m 443 #[rv a1, iv p1] [(.int 8), (.ref a1), (.int 8), (.ref b329), (.ref b329), (.ref b325), (.ref b325)]) s1 EF := fun t k => pre378 t (by
       refine XS.dup X377.here hx rfl (B d16_437) rfl rfl ?_
       refine XS.bipush X377.here hx rfl (B d16_438) ?_
       refine XS.aloadN X377.here hx rfl (B d16_440) rfl rfl ?_
       exact XS.bipush X377.here hx rfl (B d16_441) k)
      obtain ⟨cl381, Ar381, q381, Sz381, M381, H381, G381⟩ := id ((((((((((V1.ext Et325).ext Et329).other W335 ne_a1_b329).other W341 ne_a1_b329).other W347 ne_a1_b329).other W353 ne_a1_b329).other W359 ne_a1_b329).other W365 ne_a1_b329).other W371 ne_a1_b329).other W377 ne_a1_b329)
      have hin381 := inb_of (j := (8 : Int32)) Sz381 ⟨by decide, by decide⟩
      have hat381 := Has.at (v := (.int c8)) H381 hin381 rfl
      have pre382 : Go p e bl T377 (mkF m 444 #[rv a1, iv p1] [(.int c8), (.int 8), (.ref b329), (.ref b329), (.ref b325), (.ref b325)]) s1 EF := fun t k => pre380 t (by
       exact X377.caload hx (j := 8) (v := (.int c8)) (hp e377 Ar381) (State.isArrayOf_alike hZ0.alike Ar381.2.1) Ar381.2.2 hin381 hat381 (g := (mkF m 443 #[rv a1, iv p1] [(.int 8), (.ref a1), (.int 8), (.ref b329), (.ref b329), (.ref b325), (.ref b325)])) rfl rfl (B d16_443) _ k)
      obtain ⟨cl383, Ar383, q383, Sz383, M383, H383, G383⟩ := id V377
      have hin383 := inb_of (j := (8 : Int32)) Sz383 ⟨by decide, by decide⟩
      obtain ⟨T383, h383, X383, e383, W383, st383⟩ := stC X377 hx hZ0 e377 Ar383 (j := 8) hin383 (g := (mkF m 444 #[rv a1, iv p1] [(.int c8), (.int 8), (.ref b329), (.ref b329), (.ref b325), (.ref b325)])) rfl rfl (B d16_444)
      rw [rc8.nc] at W383
      have pre384 : Go p e bl T383 (mkF m 445 #[rv a1, iv p1] [(.ref b329), (.ref b325), (.ref b325)]) s1 EF := fun t k => pre382 t (st383 t k)
      have O385 : Old Z n0 h383 := O379.wr W383 g_b329
      have Z385 : n0 ≤ h383.size := Nat.le_trans Z379 (Keep.of_wr W383).1
      have hk385 := Nat.le_trans hk379 (Keep.of_wr W383).1
      have C385 := CHv.wr W383 sf379_b329 C379
      have R385 := R379.trans (CHr.wr W383 sf379_b329 C379)
      have sf385_b325 := Safe.wr W383 sf379_b329 C379 sf379_b325
      have sf385_b329 := Safe.wr W383 sf379_b329 C379 sf379_b329
      have K385 : Keep h0 h383 [] := K379.wr W383 (Or.inr sz_b329)
      have V383 : Arv Z h383 b329 k329 .char (9 : Int32) [(.int c0), (.int c1), (.int c2), (.int c3), (.int c4), (.int c5), (.int c6), (.int c7), (.int c8)] (.int 0) := Arv.set Ar383 q383 Sz383 M383 H383 G383 (own_fitc rc8.nc) W383 8 rfl (wl rfl)
      have N383 := Fr.snoc X383 N377 g_b329
      obtain ⟨_, _, ⟨T386, L386, k386, n386⟩, -, X386, ⟨Lc386, hQ386, l386, y386, z386⟩, st386⟩ := X383.specialBack hx (y := mN6) rfl hown0 (mvT hZ0 (hw _ (mW 8 rfl))) (mvT hZ0 (hw _ (mW 9 rfl))) (mvT hZ0 (hw _ (mW 10 rfl))) (by decide) (backOf (W := 1) (rmKj l Z a0 hw [] b325 b329 cz fv (9 : Int32) k329 [c0, c1, c2, c3, c4, c5, c6, c7, c8] h383 n0 Z385 O385 J0 ((((((((((A325.ext Et329).wr W335).wr W341).wr W347).wr W353).wr W359).wr W365).wr W371).wr W377).wr W383) g_b325 (Fld.other W383 (Fld.other W377 (Fld.other W371 (Fld.other W365 (Fld.other W359 (Fld.other W353 (Fld.other W347 (Fld.other W341 (Fld.other W335 (F_value_b325.ext Et329) (Or.inl ne_b325_b329)) (Or.inl ne_b325_b329)) (Or.inl ne_b325_b329)) (Or.inl ne_b325_b329)) (Or.inl ne_b325_b329)) (Or.inl ne_b325_b329)) (Or.inl ne_b325_b329)) (Or.inl ne_b325_b329)) (Or.inl ne_b325_b329)) (Fld.other W383 (Fld.other W377 (Fld.other W371 (Fld.other W365 (Fld.other W359 (Fld.other W353 (Fld.other W347 (Fld.other W341 (Fld.other W335 (F_coder_b325.ext Et329) (Or.inl ne_b325_b329)) (Or.inl ne_b325_b329)) (Or.inl ne_b325_b329)) (Or.inl ne_b325_b329)) (Or.inl ne_b325_b329)) (Or.inl ne_b325_b329)) (Or.inl ne_b325_b329)) (Or.inl ne_b325_b329)) (Or.inl ne_b325_b329)) V383 (by decide) rfl (wl rfl) (wl rfl) (List.forall_mem_cons.mpr ⟨rc0.le, (List.forall_mem_cons.mpr ⟨rc1.le, (List.forall_mem_cons.mpr ⟨rc2.le, (List.forall_mem_cons.mpr ⟨rc3.le, (List.forall_mem_cons.mpr ⟨rc4.le, (List.forall_mem_cons.mpr ⟨rc5.le, (List.forall_mem_cons.mpr ⟨rc6.le, (List.forall_mem_cons.mpr ⟨rc7.le, (List.forall_mem_cons.mpr ⟨rc8.le, (fun _ q => nomatch q)⟩)⟩)⟩)⟩)⟩)⟩)⟩)⟩)⟩)) hZ0 (hw _ (mW 10 rfl)) (hw _ (mW 7 rfl)) (by decide) (by decide)) (g := (mkF m 445 #[rv a1, iv p1] [(.ref b329), (.ref b325), (.ref b325)])) rfl (hM rfl) (Steps.refl _) (a := b325) (argsL := [(.ref b329)]) (rest := [(.ref b325)]) (lenOf pd12 rfl) rfl (Nat.le_of_eq rfl) (B d16_445) (fun _ _ => ⟨rfl, e383, wl rfl, wl rfl⟩)
      dsimp only [Pt.U, Pt.locs, Pt.cells, Pt.slots] at X386 l386 y386 z386 st386 hQ386
      subst l386 y386 z386
      obtain ⟨rfl, N386q, K386, bv386, kb386, hsz386, SF386⟩ := hQ386
      have N386 := Fr.app N383 N386q
      have pre387 : Go p e bl T386 (mkF m 448 #[rv a1, iv p1] [(.ref b325)]) s1 EF := fun t k => pre384 t (st386.trans k)
      have O388 : Old Z n0 T386.heap := O385.keep K386 (allS g_b325 all0)
      have Z388 : n0 ≤ T386.heap.size := Nat.le_trans Z385 K386.1
      have hk388 := Nat.le_trans hk385 K386.1
      have C388 := CHv.keep K386 (sfS sf385_b325 sf0) C385
      have R388 := R385.trans (CHr.keep K386 (sfS sf385_b325 sf0) C385)
      have sf388_b325 := Safe.keep K386 (sfS sf385_b325 sf0) C385 sf385_b325
      have sf388_b329 := Safe.keep K386 (sfS sf385_b325 sf0) C385 sf385_b329
      have K388 : Keep h0 T386.heap [] := K385.trans K386 (allS (Or.inr sz_b325) all0)
      obtain ⟨fs, hr, hrun, hended, hend1, hend2, hend3, hsame⟩ := X386.leaveW hS0 hk388 (v := some (.ref b325)) (fun h => by rw [Bd.returns] at h; cases h)
      have hCH : CHr Z [("com/example/picketline/picketline/protocol/Protocol", 37), ("com/example/picketline/picketline/protocol/ProtocolNamedPinLaw", 20), ("com/example/picketline/picketline/protocol/ProtocolNamedPinLaw", 42), ("java/lang/String", 7)] s.vm s.heap T386.vm T386.heap := by rw [hh]; exact R388.trans (CHv.at X386 hZ0 (own_EW hw) C388)
      refine ⟨_, _, hEF ▸ pre387 _ (retOut X386 hx Bd.returns rfl (Or.inr (Or.inr (Or.inr (Or.inr ⟨rfl, rfl, rfl⟩)))) (B d16_448) hr), hrun, hended, _, _, rfl, ?_, hCH, hend1, hend2, hend3, hsame.mono (by decide) (by decide)⟩
      show QPx Z a1 p1 cz fv kc c0 c1 c2 c3 c4 c5 c6 c7 c8 c9 h0 n0 _ T386.heap _
      exact ⟨_, _, _, _, _, rfl, N386, K388, sz_b325, SF386, by rfl⟩
    have pre389 : Go p e bl s1 (mkF m 449 #[rv a1, iv p1] []) s1 EF := fun t k => pre323 t (XS.icmpYes X0.here hx rfl (pc0 := 374) (pc' := 449) rfl (B d16_374) rfl (feq hc374).2 (by decide) (by decide) k)
    obtain ⟨T390, h390, X390, e390, Et390, A390, D390, U390, st390⟩ := newO X0 hx hZ0 hown0 (hw _ (mW 5 rfl)) (hw _ (mW 6 rfl)) (hw _ (mW 7 rfl)) e0 (g := (mkF m 449 #[rv a1, iv p1] [])) rfl (B d16_449) (by decide) (by decide)
    obtain ⟨b390, g390⟩ : ∃ z, z = h0.size := ⟨_, rfl⟩
    rw [← g390] at A390 st390 D390
    have g_b390 : n0 ≤ b390 := Nat.le_trans Z0 (Nat.le_of_eq g390.symm)
    have sz_b390 : h0.size ≤ b390 := Nat.le_trans (Keep.refl h0 []).1 (Nat.le_of_eq g390.symm)
    have sfn_b390 : Safe Z [("com/example/picketline/picketline/protocol/Protocol", 37), ("com/example/picketline/picketline/protocol/ProtocolNamedPinLaw", 20), ("com/example/picketline/picketline/protocol/ProtocolNamedPinLaw", 42), ("java/lang/String", 7)] s.vm h0 b390 := Safe.new (Nat.le_of_eq g390.symm)
    have ne_a1_b390 : a1 ≠ b390 := Nat.ne_of_lt (Nat.lt_of_lt_of_le V1.lt (Nat.le_of_eq g390.symm))
    have pre391 : Go p e bl T390 (mkF m 452 #[rv a1, iv p1] [(.ref b390)]) s1 EF := fun t k => pre389 t (st390 t k)
    have O392 : Old Z n0 h390 := O0.ext Et390
    have Z392 : n0 ≤ h390.size := Nat.le_trans Z0 Et390.1
    have hk392 := Nat.le_trans hk0 Et390.1
    have C392 := CHv.ext Et390 hC
    have R392 := (CHr.refl hC).trans (CHr.ext Et390 hC)
    have sf392_b390 := Safe.ext Et390 hC sfn_b390
    have K392 : Keep h0 h390 [] := (Keep.refl h0 []).ext Et390
    have F_coder_b390 : Fld Z h390 b390 "java/lang/String" "coder" "B" (.int 0) := D390 (Or.inr (hw _ (mW 31 rfl))) (ty := .byte) (by decide)
    have F_value_b390 : Fld Z h390 b390 "java/lang/String" "value" "[B" .null := D390 (Or.inr (hw _ (mW 33 rfl))) (ty := (.array .byte)) (by decide)
    have pre393 : Go p e bl T390 (mkF m 455 #[rv a1, iv p1] [(.int 10), (.ref b390), (.ref b390)]) s1 EF := fun t k => pre391 t (by
     refine XS.dup X390.here hx rfl (B d16_452) rfl rfl ?_
     exact XS.bipush X390.here hx rfl (B d16_453) k)
    obtain ⟨T394, h394, k394, X394, e394, Et394, A394, st394⟩ := newP X390 hx hZ0 (hw _ (mW 0 rfl)) e390 (g := (mkF m 455 #[rv a1, iv p1] [(.int 10), (.ref b390), (.ref b390)])) rfl (B d16_455) rfl (by decide) (cap := 10) (by decide) (by decide) (by decide) (by decide)
    obtain ⟨b394, g394⟩ : ∃ z, z = h390.size := ⟨_, rfl⟩
    rw [← g394] at A394 st394
    have g_b394 : n0 ≤ b394 := Nat.le_trans Z392 (Nat.le_of_eq g394.symm)
    have sz_b394 : h0.size ≤ b394 := Nat.le_trans K392.1 (Nat.le_of_eq g394.symm)
    have sfn_b394 : Safe Z [("com/example/picketline/picketline/protocol/Protocol", 37), ("com/example/picketline/picketline/protocol/ProtocolNamedPinLaw", 20), ("com/example/picketline/picketline/protocol/ProtocolNamedPinLaw", 42), ("java/lang/String", 7)] s.vm h390 b394 := Safe.new (Nat.le_of_eq g394.symm)
    have ne_a1_b394 : a1 ≠ b394 := Nat.ne_of_lt (Nat.lt_of_lt_of_le (V1.ext Et390).lt (Nat.le_of_eq g394.symm))
    have ne_b390_b394 : b390 ≠ b394 := Nat.ne_of_lt (Nat.lt_of_lt_of_le A390.lt (Nat.le_of_eq g394.symm))
    have pre395 : Go p e bl T394 (mkF m 457 #[rv a1, iv p1] [(.ref b394), (.ref b390), (.ref b390)]) s1 EF := fun t k => pre393 t (st394 t k)
    have O396 : Old Z n0 h394 := O392.ext Et394
    have Z396 : n0 ≤ h394.size := Nat.le_trans Z392 Et394.1
    have hk396 := Nat.le_trans hk392 Et394.1
    have C396 := CHv.ext Et394 C392
    have R396 := R392.trans (CHr.ext Et394 C392)
    have sf396_b390 := Safe.ext Et394 C392 sf392_b390
    have sf396_b394 := Safe.ext Et394 C392 sfn_b394
    have K396 : Keep h0 h394 [] := K392.ext Et394
    have V394 : Arv Z h394 b394 k394 .char (10 : Int32) [(.int 0), (.int 0), (.int 0), (.int 0), (.int 0), (.int 0), (.int 0), (.int 0), (.int 0), (.int 0)] (.int 0) := (Arv.new A394 (by decide)).pad (pad_rep [] (.int 0) 10)
    have pre397 : Go p e bl T394 (mkF m 461 #[rv a1, iv p1] [(.int 0), (.ref a1), (.int 0), (.ref b394), (.ref b394), (.ref b390), (.ref b390)]) s1 EF := fun t k => pre395 t (by
     refine XS.dup X394.here hx rfl (B d16_457) rfl rfl ?_
     refine XS.iconst X394.here hx rfl (B d16_458) ?_
     refine XS.aloadN X394.here hx rfl (B d16_459) rfl rfl ?_
     exact XS.iconst X394.here hx rfl (B d16_460) k)
    obtain ⟨cl398, Ar398, q398, Sz398, M398, H398, G398⟩ := id ((V1.ext Et390).ext Et394)
    have hin398 := inb_of (j := (0 : Int32)) Sz398 ⟨by decide, by decide⟩
    have hat398 := Has.at (v := (.int c0)) H398 hin398 rfl
    have pre399 : Go p e bl T394 (mkF m 462 #[rv a1, iv p1] [(.int c0), (.int 0), (.ref b394), (.ref b394), (.ref b390), (.ref b390)]) s1 EF := fun t k => pre397 t (by
     exact X394.caload hx (j := 0) (v := (.int c0)) (hp e394 Ar398) (State.isArrayOf_alike hZ0.alike Ar398.2.1) Ar398.2.2 hin398 hat398 (g := (mkF m 461 #[rv a1, iv p1] [(.int 0), (.ref a1), (.int 0), (.ref b394), (.ref b394), (.ref b390), (.ref b390)])) rfl rfl (B d16_461) _ k)
    obtain ⟨cl400, Ar400, q400, Sz400, M400, H400, G400⟩ := id V394
    have hin400 := inb_of (j := (0 : Int32)) Sz400 ⟨by decide, by decide⟩
    obtain ⟨T400, h400, X400, e400, W400, st400⟩ := stC X394 hx hZ0 e394 Ar400 (j := 0) hin400 (g := (mkF m 462 #[rv a1, iv p1] [(.int c0), (.int 0), (.ref b394), (.ref b394), (.ref b390), (.ref b390)])) rfl rfl (B d16_462)
    rw [rc0.nc] at W400
    have pre401 : Go p e bl T400 (mkF m 463 #[rv a1, iv p1] [(.ref b394), (.ref b390), (.ref b390)]) s1 EF := fun t k => pre399 t (st400 t k)
    have O402 : Old Z n0 h400 := O396.wr W400 g_b394
    have Z402 : n0 ≤ h400.size := Nat.le_trans Z396 (Keep.of_wr W400).1
    have hk402 := Nat.le_trans hk396 (Keep.of_wr W400).1
    have C402 := CHv.wr W400 sf396_b394 C396
    have R402 := R396.trans (CHr.wr W400 sf396_b394 C396)
    have sf402_b390 := Safe.wr W400 sf396_b394 C396 sf396_b390
    have sf402_b394 := Safe.wr W400 sf396_b394 C396 sf396_b394
    have K402 : Keep h0 h400 [] := K396.wr W400 (Or.inr sz_b394)
    have V400 : Arv Z h400 b394 k394 .char (10 : Int32) [(.int c0), (.int 0), (.int 0), (.int 0), (.int 0), (.int 0), (.int 0), (.int 0), (.int 0), (.int 0)] (.int 0) := Arv.set Ar400 q400 Sz400 M400 H400 G400 (own_fitc rc0.nc) W400 0 rfl (wl rfl)
    have N400 := Fr.snoc X400 N0 g_b394
    have pre403 : Go p e bl T400 (mkF m 467 #[rv a1, iv p1] [(.int 1), (.ref a1), (.int 1), (.ref b394), (.ref b394), (.ref b390), (.ref b390)]) s1 EF := fun t k => pre401 t (by
     refine XS.dup X400.here hx rfl (B d16_463) rfl rfl ?_
     refine XS.iconst X400.here hx rfl (B d16_464) ?_
     refine XS.aloadN X400.here hx rfl (B d16_465) rfl rfl ?_
     exact XS.iconst X400.here hx rfl (B d16_466) k)
    obtain ⟨cl404, Ar404, q404, Sz404, M404, H404, G404⟩ := id (((V1.ext Et390).ext Et394).other W400 ne_a1_b394)
    have hin404 := inb_of (j := (1 : Int32)) Sz404 ⟨by decide, by decide⟩
    have hat404 := Has.at (v := (.int c1)) H404 hin404 rfl
    have pre405 : Go p e bl T400 (mkF m 468 #[rv a1, iv p1] [(.int c1), (.int 1), (.ref b394), (.ref b394), (.ref b390), (.ref b390)]) s1 EF := fun t k => pre403 t (by
     exact X400.caload hx (j := 1) (v := (.int c1)) (hp e400 Ar404) (State.isArrayOf_alike hZ0.alike Ar404.2.1) Ar404.2.2 hin404 hat404 (g := (mkF m 467 #[rv a1, iv p1] [(.int 1), (.ref a1), (.int 1), (.ref b394), (.ref b394), (.ref b390), (.ref b390)])) rfl rfl (B d16_467) _ k)
    obtain ⟨cl406, Ar406, q406, Sz406, M406, H406, G406⟩ := id V400
    have hin406 := inb_of (j := (1 : Int32)) Sz406 ⟨by decide, by decide⟩
    obtain ⟨T406, h406, X406, e406, W406, st406⟩ := stC X400 hx hZ0 e400 Ar406 (j := 1) hin406 (g := (mkF m 468 #[rv a1, iv p1] [(.int c1), (.int 1), (.ref b394), (.ref b394), (.ref b390), (.ref b390)])) rfl rfl (B d16_468)
    rw [rc1.nc] at W406
    have pre407 : Go p e bl T406 (mkF m 469 #[rv a1, iv p1] [(.ref b394), (.ref b390), (.ref b390)]) s1 EF := fun t k => pre405 t (st406 t k)
    have O408 : Old Z n0 h406 := O402.wr W406 g_b394
    have Z408 : n0 ≤ h406.size := Nat.le_trans Z402 (Keep.of_wr W406).1
    have hk408 := Nat.le_trans hk402 (Keep.of_wr W406).1
    have C408 := CHv.wr W406 sf402_b394 C402
    have R408 := R402.trans (CHr.wr W406 sf402_b394 C402)
    have sf408_b390 := Safe.wr W406 sf402_b394 C402 sf402_b390
    have sf408_b394 := Safe.wr W406 sf402_b394 C402 sf402_b394
    have K408 : Keep h0 h406 [] := K402.wr W406 (Or.inr sz_b394)
    have V406 : Arv Z h406 b394 k394 .char (10 : Int32) [(.int c0), (.int c1), (.int 0), (.int 0), (.int 0), (.int 0), (.int 0), (.int 0), (.int 0), (.int 0)] (.int 0) := Arv.set Ar406 q406 Sz406 M406 H406 G406 (own_fitc rc1.nc) W406 1 rfl (wl rfl)
    have N406 := Fr.snoc X406 N400 g_b394
    have pre409 : Go p e bl T406 (mkF m 473 #[rv a1, iv p1] [(.int 2), (.ref a1), (.int 2), (.ref b394), (.ref b394), (.ref b390), (.ref b390)]) s1 EF := fun t k => pre407 t (by
     refine XS.dup X406.here hx rfl (B d16_469) rfl rfl ?_
     refine XS.iconst X406.here hx rfl (B d16_470) ?_
     refine XS.aloadN X406.here hx rfl (B d16_471) rfl rfl ?_
     exact XS.iconst X406.here hx rfl (B d16_472) k)
    obtain ⟨cl410, Ar410, q410, Sz410, M410, H410, G410⟩ := id ((((V1.ext Et390).ext Et394).other W400 ne_a1_b394).other W406 ne_a1_b394)
    have hin410 := inb_of (j := (2 : Int32)) Sz410 ⟨by decide, by decide⟩
    have hat410 := Has.at (v := (.int c2)) H410 hin410 rfl
    have pre411 : Go p e bl T406 (mkF m 474 #[rv a1, iv p1] [(.int c2), (.int 2), (.ref b394), (.ref b394), (.ref b390), (.ref b390)]) s1 EF := fun t k => pre409 t (by
     exact X406.caload hx (j := 2) (v := (.int c2)) (hp e406 Ar410) (State.isArrayOf_alike hZ0.alike Ar410.2.1) Ar410.2.2 hin410 hat410 (g := (mkF m 473 #[rv a1, iv p1] [(.int 2), (.ref a1), (.int 2), (.ref b394), (.ref b394), (.ref b390), (.ref b390)])) rfl rfl (B d16_473) _ k)
    obtain ⟨cl412, Ar412, q412, Sz412, M412, H412, G412⟩ := id V406
    have hin412 := inb_of (j := (2 : Int32)) Sz412 ⟨by decide, by decide⟩
    obtain ⟨T412, h412, X412, e412, W412, st412⟩ := stC X406 hx hZ0 e406 Ar412 (j := 2) hin412 (g := (mkF m 474 #[rv a1, iv p1] [(.int c2), (.int 2), (.ref b394), (.ref b394), (.ref b390), (.ref b390)])) rfl rfl (B d16_474)
    rw [rc2.nc] at W412
    have pre413 : Go p e bl T412 (mkF m 475 #[rv a1, iv p1] [(.ref b394), (.ref b390), (.ref b390)]) s1 EF := fun t k => pre411 t (st412 t k)
    have O414 : Old Z n0 h412 := O408.wr W412 g_b394
    have Z414 : n0 ≤ h412.size := Nat.le_trans Z408 (Keep.of_wr W412).1
    have hk414 := Nat.le_trans hk408 (Keep.of_wr W412).1
    have C414 := CHv.wr W412 sf408_b394 C408
    have R414 := R408.trans (CHr.wr W412 sf408_b394 C408)
    have sf414_b390 := Safe.wr W412 sf408_b394 C408 sf408_b390
    have sf414_b394 := Safe.wr W412 sf408_b394 C408 sf408_b394
    have K414 : Keep h0 h412 [] := K408.wr W412 (Or.inr sz_b394)
    have V412 : Arv Z h412 b394 k394 .char (10 : Int32) [(.int c0), (.int c1), (.int c2), (.int 0), (.int 0), (.int 0), (.int 0), (.int 0), (.int 0), (.int 0)] (.int 0) := Arv.set Ar412 q412 Sz412 M412 H412 G412 (own_fitc rc2.nc) W412 2 rfl (wl rfl)
    have N412 := Fr.snoc X412 N406 g_b394
    have pre415 : Go p e bl T412 (mkF m 479 #[rv a1, iv p1] [(.int 3), (.ref a1), (.int 3), (.ref b394), (.ref b394), (.ref b390), (.ref b390)]) s1 EF := fun t k => pre413 t (by
     refine XS.dup X412.here hx rfl (B d16_475) rfl rfl ?_
     refine XS.iconst X412.here hx rfl (B d16_476) ?_
     refine XS.aloadN X412.here hx rfl (B d16_477) rfl rfl ?_
     exact XS.iconst X412.here hx rfl (B d16_478) k)
    obtain ⟨cl416, Ar416, q416, Sz416, M416, H416, G416⟩ := id (((((V1.ext Et390).ext Et394).other W400 ne_a1_b394).other W406 ne_a1_b394).other W412 ne_a1_b394)
    have hin416 := inb_of (j := (3 : Int32)) Sz416 ⟨by decide, by decide⟩
    have hat416 := Has.at (v := (.int c3)) H416 hin416 rfl
    have pre417 : Go p e bl T412 (mkF m 480 #[rv a1, iv p1] [(.int c3), (.int 3), (.ref b394), (.ref b394), (.ref b390), (.ref b390)]) s1 EF := fun t k => pre415 t (by
     exact X412.caload hx (j := 3) (v := (.int c3)) (hp e412 Ar416) (State.isArrayOf_alike hZ0.alike Ar416.2.1) Ar416.2.2 hin416 hat416 (g := (mkF m 479 #[rv a1, iv p1] [(.int 3), (.ref a1), (.int 3), (.ref b394), (.ref b394), (.ref b390), (.ref b390)])) rfl rfl (B d16_479) _ k)
    obtain ⟨cl418, Ar418, q418, Sz418, M418, H418, G418⟩ := id V412
    have hin418 := inb_of (j := (3 : Int32)) Sz418 ⟨by decide, by decide⟩
    obtain ⟨T418, h418, X418, e418, W418, st418⟩ := stC X412 hx hZ0 e412 Ar418 (j := 3) hin418 (g := (mkF m 480 #[rv a1, iv p1] [(.int c3), (.int 3), (.ref b394), (.ref b394), (.ref b390), (.ref b390)])) rfl rfl (B d16_480)
    rw [rc3.nc] at W418
    have pre419 : Go p e bl T418 (mkF m 481 #[rv a1, iv p1] [(.ref b394), (.ref b390), (.ref b390)]) s1 EF := fun t k => pre417 t (st418 t k)
    have O420 : Old Z n0 h418 := O414.wr W418 g_b394
    have Z420 : n0 ≤ h418.size := Nat.le_trans Z414 (Keep.of_wr W418).1
    have hk420 := Nat.le_trans hk414 (Keep.of_wr W418).1
    have C420 := CHv.wr W418 sf414_b394 C414
    have R420 := R414.trans (CHr.wr W418 sf414_b394 C414)
    have sf420_b390 := Safe.wr W418 sf414_b394 C414 sf414_b390
    have sf420_b394 := Safe.wr W418 sf414_b394 C414 sf414_b394
    have K420 : Keep h0 h418 [] := K414.wr W418 (Or.inr sz_b394)
    have V418 : Arv Z h418 b394 k394 .char (10 : Int32) [(.int c0), (.int c1), (.int c2), (.int c3), (.int 0), (.int 0), (.int 0), (.int 0), (.int 0), (.int 0)] (.int 0) := Arv.set Ar418 q418 Sz418 M418 H418 G418 (own_fitc rc3.nc) W418 3 rfl (wl rfl)
    have N418 := Fr.snoc X418 N412 g_b394
    have pre421 : Go p e bl T418 (mkF m 485 #[rv a1, iv p1] [(.int 4), (.ref a1), (.int 4), (.ref b394), (.ref b394), (.ref b390), (.ref b390)]) s1 EF := fun t k => pre419 t (by
     refine XS.dup X418.here hx rfl (B d16_481) rfl rfl ?_
     refine XS.iconst X418.here hx rfl (B d16_482) ?_
     refine XS.aloadN X418.here hx rfl (B d16_483) rfl rfl ?_
     exact XS.iconst X418.here hx rfl (B d16_484) k)
    obtain ⟨cl422, Ar422, q422, Sz422, M422, H422, G422⟩ := id ((((((V1.ext Et390).ext Et394).other W400 ne_a1_b394).other W406 ne_a1_b394).other W412 ne_a1_b394).other W418 ne_a1_b394)
    have hin422 := inb_of (j := (4 : Int32)) Sz422 ⟨by decide, by decide⟩
    have hat422 := Has.at (v := (.int c4)) H422 hin422 rfl
    have pre423 : Go p e bl T418 (mkF m 486 #[rv a1, iv p1] [(.int c4), (.int 4), (.ref b394), (.ref b394), (.ref b390), (.ref b390)]) s1 EF := fun t k => pre421 t (by
     exact X418.caload hx (j := 4) (v := (.int c4)) (hp e418 Ar422) (State.isArrayOf_alike hZ0.alike Ar422.2.1) Ar422.2.2 hin422 hat422 (g := (mkF m 485 #[rv a1, iv p1] [(.int 4), (.ref a1), (.int 4), (.ref b394), (.ref b394), (.ref b390), (.ref b390)])) rfl rfl (B d16_485) _ k)
    obtain ⟨cl424, Ar424, q424, Sz424, M424, H424, G424⟩ := id V418
    have hin424 := inb_of (j := (4 : Int32)) Sz424 ⟨by decide, by decide⟩
    obtain ⟨T424, h424, X424, e424, W424, st424⟩ := stC X418 hx hZ0 e418 Ar424 (j := 4) hin424 (g := (mkF m 486 #[rv a1, iv p1] [(.int c4), (.int 4), (.ref b394), (.ref b394), (.ref b390), (.ref b390)])) rfl rfl (B d16_486)
    rw [rc4.nc] at W424
    have pre425 : Go p e bl T424 (mkF m 487 #[rv a1, iv p1] [(.ref b394), (.ref b390), (.ref b390)]) s1 EF := fun t k => pre423 t (st424 t k)
    have O426 : Old Z n0 h424 := O420.wr W424 g_b394
    have Z426 : n0 ≤ h424.size := Nat.le_trans Z420 (Keep.of_wr W424).1
    have hk426 := Nat.le_trans hk420 (Keep.of_wr W424).1
    have C426 := CHv.wr W424 sf420_b394 C420
    have R426 := R420.trans (CHr.wr W424 sf420_b394 C420)
    have sf426_b390 := Safe.wr W424 sf420_b394 C420 sf420_b390
    have sf426_b394 := Safe.wr W424 sf420_b394 C420 sf420_b394
    have K426 : Keep h0 h424 [] := K420.wr W424 (Or.inr sz_b394)
    have V424 : Arv Z h424 b394 k394 .char (10 : Int32) [(.int c0), (.int c1), (.int c2), (.int c3), (.int c4), (.int 0), (.int 0), (.int 0), (.int 0), (.int 0)] (.int 0) := Arv.set Ar424 q424 Sz424 M424 H424 G424 (own_fitc rc4.nc) W424 4 rfl (wl rfl)
    have N424 := Fr.snoc X424 N418 g_b394
    have pre427 : Go p e bl T424 (mkF m 491 #[rv a1, iv p1] [(.int 5), (.ref a1), (.int 5), (.ref b394), (.ref b394), (.ref b390), (.ref b390)]) s1 EF := fun t k => pre425 t (by
     refine XS.dup X424.here hx rfl (B d16_487) rfl rfl ?_
     refine XS.iconst X424.here hx rfl (B d16_488) ?_
     refine XS.aloadN X424.here hx rfl (B d16_489) rfl rfl ?_
     exact XS.iconst X424.here hx rfl (B d16_490) k)
    obtain ⟨cl428, Ar428, q428, Sz428, M428, H428, G428⟩ := id (((((((V1.ext Et390).ext Et394).other W400 ne_a1_b394).other W406 ne_a1_b394).other W412 ne_a1_b394).other W418 ne_a1_b394).other W424 ne_a1_b394)
    have hin428 := inb_of (j := (5 : Int32)) Sz428 ⟨by decide, by decide⟩
    have hat428 := Has.at (v := (.int c5)) H428 hin428 rfl
    have pre429 : Go p e bl T424 (mkF m 492 #[rv a1, iv p1] [(.int c5), (.int 5), (.ref b394), (.ref b394), (.ref b390), (.ref b390)]) s1 EF := fun t k => pre427 t (by
     exact X424.caload hx (j := 5) (v := (.int c5)) (hp e424 Ar428) (State.isArrayOf_alike hZ0.alike Ar428.2.1) Ar428.2.2 hin428 hat428 (g := (mkF m 491 #[rv a1, iv p1] [(.int 5), (.ref a1), (.int 5), (.ref b394), (.ref b394), (.ref b390), (.ref b390)])) rfl rfl (B d16_491) _ k)
    obtain ⟨cl430, Ar430, q430, Sz430, M430, H430, G430⟩ := id V424
    have hin430 := inb_of (j := (5 : Int32)) Sz430 ⟨by decide, by decide⟩
    obtain ⟨T430, h430, X430, e430, W430, st430⟩ := stC X424 hx hZ0 e424 Ar430 (j := 5) hin430 (g := (mkF m 492 #[rv a1, iv p1] [(.int c5), (.int 5), (.ref b394), (.ref b394), (.ref b390), (.ref b390)])) rfl rfl (B d16_492)
    rw [rc5.nc] at W430
    have pre431 : Go p e bl T430 (mkF m 493 #[rv a1, iv p1] [(.ref b394), (.ref b390), (.ref b390)]) s1 EF := fun t k => pre429 t (st430 t k)
    have O432 : Old Z n0 h430 := O426.wr W430 g_b394
    have Z432 : n0 ≤ h430.size := Nat.le_trans Z426 (Keep.of_wr W430).1
    have hk432 := Nat.le_trans hk426 (Keep.of_wr W430).1
    have C432 := CHv.wr W430 sf426_b394 C426
    have R432 := R426.trans (CHr.wr W430 sf426_b394 C426)
    have sf432_b390 := Safe.wr W430 sf426_b394 C426 sf426_b390
    have sf432_b394 := Safe.wr W430 sf426_b394 C426 sf426_b394
    have K432 : Keep h0 h430 [] := K426.wr W430 (Or.inr sz_b394)
    have V430 : Arv Z h430 b394 k394 .char (10 : Int32) [(.int c0), (.int c1), (.int c2), (.int c3), (.int c4), (.int c5), (.int 0), (.int 0), (.int 0), (.int 0)] (.int 0) := Arv.set Ar430 q430 Sz430 M430 H430 G430 (own_fitc rc5.nc) W430 5 rfl (wl rfl)
    have N430 := Fr.snoc X430 N424 g_b394
    have pre433 : Go p e bl T430 (mkF m 499 #[rv a1, iv p1] [(.int 6), (.ref a1), (.int 6), (.ref b394), (.ref b394), (.ref b390), (.ref b390)]) s1 EF := fun t k => pre431 t (by
     refine XS.dup X430.here hx rfl (B d16_493) rfl rfl ?_
     refine XS.bipush X430.here hx rfl (B d16_494) ?_
     refine XS.aloadN X430.here hx rfl (B d16_496) rfl rfl ?_
     exact XS.bipush X430.here hx rfl (B d16_497) k)
    obtain ⟨cl434, Ar434, q434, Sz434, M434, H434, G434⟩ := id ((((((((V1.ext Et390).ext Et394).other W400 ne_a1_b394).other W406 ne_a1_b394).other W412 ne_a1_b394).other W418 ne_a1_b394).other W424 ne_a1_b394).other W430 ne_a1_b394)
    have hin434 := inb_of (j := (6 : Int32)) Sz434 ⟨by decide, by decide⟩
    have hat434 := Has.at (v := (.int c6)) H434 hin434 rfl
    have pre435 : Go p e bl T430 (mkF m 500 #[rv a1, iv p1] [(.int c6), (.int 6), (.ref b394), (.ref b394), (.ref b390), (.ref b390)]) s1 EF := fun t k => pre433 t (by
     exact X430.caload hx (j := 6) (v := (.int c6)) (hp e430 Ar434) (State.isArrayOf_alike hZ0.alike Ar434.2.1) Ar434.2.2 hin434 hat434 (g := (mkF m 499 #[rv a1, iv p1] [(.int 6), (.ref a1), (.int 6), (.ref b394), (.ref b394), (.ref b390), (.ref b390)])) rfl rfl (B d16_499) _ k)
    obtain ⟨cl436, Ar436, q436, Sz436, M436, H436, G436⟩ := id V430
    have hin436 := inb_of (j := (6 : Int32)) Sz436 ⟨by decide, by decide⟩
    obtain ⟨T436, h436, X436, e436, W436, st436⟩ := stC X430 hx hZ0 e430 Ar436 (j := 6) hin436 (g := (mkF m 500 #[rv a1, iv p1] [(.int c6), (.int 6), (.ref b394), (.ref b394), (.ref b390), (.ref b390)])) rfl rfl (B d16_500)
    rw [rc6.nc] at W436
    have pre437 : Go p e bl T436 (mkF m 501 #[rv a1, iv p1] [(.ref b394), (.ref b390), (.ref b390)]) s1 EF := fun t k => pre435 t (st436 t k)
    have O438 : Old Z n0 h436 := O432.wr W436 g_b394
    have Z438 : n0 ≤ h436.size := Nat.le_trans Z432 (Keep.of_wr W436).1
    have hk438 := Nat.le_trans hk432 (Keep.of_wr W436).1
    have C438 := CHv.wr W436 sf432_b394 C432
    have R438 := R432.trans (CHr.wr W436 sf432_b394 C432)
    have sf438_b390 := Safe.wr W436 sf432_b394 C432 sf432_b390
    have sf438_b394 := Safe.wr W436 sf432_b394 C432 sf432_b394
    have K438 : Keep h0 h436 [] := K432.wr W436 (Or.inr sz_b394)
    have V436 : Arv Z h436 b394 k394 .char (10 : Int32) [(.int c0), (.int c1), (.int c2), (.int c3), (.int c4), (.int c5), (.int c6), (.int 0), (.int 0), (.int 0)] (.int 0) := Arv.set Ar436 q436 Sz436 M436 H436 G436 (own_fitc rc6.nc) W436 6 rfl (wl rfl)
    have N436 := Fr.snoc X436 N430 g_b394
    have pre439 : Go p e bl T436 (mkF m 507 #[rv a1, iv p1] [(.int 7), (.ref a1), (.int 7), (.ref b394), (.ref b394), (.ref b390), (.ref b390)]) s1 EF := fun t k => pre437 t (by
     refine XS.dup X436.here hx rfl (B d16_501) rfl rfl ?_
     refine XS.bipush X436.here hx rfl (B d16_502) ?_
     refine XS.aloadN X436.here hx rfl (B d16_504) rfl rfl ?_
     exact XS.bipush X436.here hx rfl (B d16_505) k)
    obtain ⟨cl440, Ar440, q440, Sz440, M440, H440, G440⟩ := id (((((((((V1.ext Et390).ext Et394).other W400 ne_a1_b394).other W406 ne_a1_b394).other W412 ne_a1_b394).other W418 ne_a1_b394).other W424 ne_a1_b394).other W430 ne_a1_b394).other W436 ne_a1_b394)
    have hin440 := inb_of (j := (7 : Int32)) Sz440 ⟨by decide, by decide⟩
    have hat440 := Has.at (v := (.int c7)) H440 hin440 rfl
    have pre441 : Go p e bl T436 (mkF m 508 #[rv a1, iv p1] [(.int c7), (.int 7), (.ref b394), (.ref b394), (.ref b390), (.ref b390)]) s1 EF := fun t k => pre439 t (by
     exact X436.caload hx (j := 7) (v := (.int c7)) (hp e436 Ar440) (State.isArrayOf_alike hZ0.alike Ar440.2.1) Ar440.2.2 hin440 hat440 (g := (mkF m 507 #[rv a1, iv p1] [(.int 7), (.ref a1), (.int 7), (.ref b394), (.ref b394), (.ref b390), (.ref b390)])) rfl rfl (B d16_507) _ k)
    obtain ⟨cl442, Ar442, q442, Sz442, M442, H442, G442⟩ := id V436
    have hin442 := inb_of (j := (7 : Int32)) Sz442 ⟨by decide, by decide⟩
    obtain ⟨T442, h442, X442, e442, W442, st442⟩ := stC X436 hx hZ0 e436 Ar442 (j := 7) hin442 (g := (mkF m 508 #[rv a1, iv p1] [(.int c7), (.int 7), (.ref b394), (.ref b394), (.ref b390), (.ref b390)])) rfl rfl (B d16_508)
    rw [rc7.nc] at W442
    have pre443 : Go p e bl T442 (mkF m 509 #[rv a1, iv p1] [(.ref b394), (.ref b390), (.ref b390)]) s1 EF := fun t k => pre441 t (st442 t k)
    have O444 : Old Z n0 h442 := O438.wr W442 g_b394
    have Z444 : n0 ≤ h442.size := Nat.le_trans Z438 (Keep.of_wr W442).1
    have hk444 := Nat.le_trans hk438 (Keep.of_wr W442).1
    have C444 := CHv.wr W442 sf438_b394 C438
    have R444 := R438.trans (CHr.wr W442 sf438_b394 C438)
    have sf444_b390 := Safe.wr W442 sf438_b394 C438 sf438_b390
    have sf444_b394 := Safe.wr W442 sf438_b394 C438 sf438_b394
    have K444 : Keep h0 h442 [] := K438.wr W442 (Or.inr sz_b394)
    have V442 : Arv Z h442 b394 k394 .char (10 : Int32) [(.int c0), (.int c1), (.int c2), (.int c3), (.int c4), (.int c5), (.int c6), (.int c7), (.int 0), (.int 0)] (.int 0) := Arv.set Ar442 q442 Sz442 M442 H442 G442 (own_fitc rc7.nc) W442 7 rfl (wl rfl)
    have N442 := Fr.snoc X442 N436 g_b394
    have pre445 : Go p e bl T442 (mkF m 515 #[rv a1, iv p1] [(.int 8), (.ref a1), (.int 8), (.ref b394), (.ref b394), (.ref b390), (.ref b390)]) s1 EF := fun t k => pre443 t (by
     refine XS.dup X442.here hx rfl (B d16_509) rfl rfl ?_
     refine XS.bipush X442.here hx rfl (B d16_510) ?_
     refine XS.aloadN X442.here hx rfl (B d16_512) rfl rfl ?_
     exact XS.bipush X442.here hx rfl (B d16_513) k)
    obtain ⟨cl446, Ar446, q446, Sz446, M446, H446, G446⟩ := id ((((((((((V1.ext Et390).ext Et394).other W400 ne_a1_b394).other W406 ne_a1_b394).other W412 ne_a1_b394).other W418 ne_a1_b394).other W424 ne_a1_b394).other W430 ne_a1_b394).other W436 ne_a1_b394).other W442 ne_a1_b394)
    have hin446 := inb_of (j := (8 : Int32)) Sz446 ⟨by decide, by decide⟩
    have hat446 := Has.at (v := (.int c8)) H446 hin446 rfl
    have pre447 : Go p e bl T442 (mkF m 516 #[rv a1, iv p1] [(.int c8), (.int 8), (.ref b394), (.ref b394), (.ref b390), (.ref b390)]) s1 EF := fun t k => pre445 t (by
     exact X442.caload hx (j := 8) (v := (.int c8)) (hp e442 Ar446) (State.isArrayOf_alike hZ0.alike Ar446.2.1) Ar446.2.2 hin446 hat446 (g := (mkF m 515 #[rv a1, iv p1] [(.int 8), (.ref a1), (.int 8), (.ref b394), (.ref b394), (.ref b390), (.ref b390)])) rfl rfl (B d16_515) _ k)
    obtain ⟨cl448, Ar448, q448, Sz448, M448, H448, G448⟩ := id V442
    have hin448 := inb_of (j := (8 : Int32)) Sz448 ⟨by decide, by decide⟩
    obtain ⟨T448, h448, X448, e448, W448, st448⟩ := stC X442 hx hZ0 e442 Ar448 (j := 8) hin448 (g := (mkF m 516 #[rv a1, iv p1] [(.int c8), (.int 8), (.ref b394), (.ref b394), (.ref b390), (.ref b390)])) rfl rfl (B d16_516)
    rw [rc8.nc] at W448
    have pre449 : Go p e bl T448 (mkF m 517 #[rv a1, iv p1] [(.ref b394), (.ref b390), (.ref b390)]) s1 EF := fun t k => pre447 t (st448 t k)
    have O450 : Old Z n0 h448 := O444.wr W448 g_b394
    have Z450 : n0 ≤ h448.size := Nat.le_trans Z444 (Keep.of_wr W448).1
    have hk450 := Nat.le_trans hk444 (Keep.of_wr W448).1
    have C450 := CHv.wr W448 sf444_b394 C444
    have R450 := R444.trans (CHr.wr W448 sf444_b394 C444)
    have sf450_b390 := Safe.wr W448 sf444_b394 C444 sf444_b390
    have sf450_b394 := Safe.wr W448 sf444_b394 C444 sf444_b394
    have K450 : Keep h0 h448 [] := K444.wr W448 (Or.inr sz_b394)
    have V448 : Arv Z h448 b394 k394 .char (10 : Int32) [(.int c0), (.int c1), (.int c2), (.int c3), (.int c4), (.int c5), (.int c6), (.int c7), (.int c8), (.int 0)] (.int 0) := Arv.set Ar448 q448 Sz448 M448 H448 G448 (own_fitc rc8.nc) W448 8 rfl (wl rfl)
    have N448 := Fr.snoc X448 N442 g_b394
    have pre451 : Go p e bl T448 (mkF m 523 #[rv a1, iv p1] [(.int 9), (.ref a1), (.int 9), (.ref b394), (.ref b394), (.ref b390), (.ref b390)]) s1 EF := fun t k => pre449 t (by
     refine XS.dup X448.here hx rfl (B d16_517) rfl rfl ?_
     refine XS.bipush X448.here hx rfl (B d16_518) ?_
     refine XS.aloadN X448.here hx rfl (B d16_520) rfl rfl ?_
     exact XS.bipush X448.here hx rfl (B d16_521) k)
    obtain ⟨cl452, Ar452, q452, Sz452, M452, H452, G452⟩ := id (((((((((((V1.ext Et390).ext Et394).other W400 ne_a1_b394).other W406 ne_a1_b394).other W412 ne_a1_b394).other W418 ne_a1_b394).other W424 ne_a1_b394).other W430 ne_a1_b394).other W436 ne_a1_b394).other W442 ne_a1_b394).other W448 ne_a1_b394)
    have hin452 := inb_of (j := (9 : Int32)) Sz452 ⟨by decide, by decide⟩
    have hat452 := Has.at (v := (.int c9)) H452 hin452 rfl
    have pre453 : Go p e bl T448 (mkF m 524 #[rv a1, iv p1] [(.int c9), (.int 9), (.ref b394), (.ref b394), (.ref b390), (.ref b390)]) s1 EF := fun t k => pre451 t (by
     exact X448.caload hx (j := 9) (v := (.int c9)) (hp e448 Ar452) (State.isArrayOf_alike hZ0.alike Ar452.2.1) Ar452.2.2 hin452 hat452 (g := (mkF m 523 #[rv a1, iv p1] [(.int 9), (.ref a1), (.int 9), (.ref b394), (.ref b394), (.ref b390), (.ref b390)])) rfl rfl (B d16_523) _ k)
    obtain ⟨cl454, Ar454, q454, Sz454, M454, H454, G454⟩ := id V448
    have hin454 := inb_of (j := (9 : Int32)) Sz454 ⟨by decide, by decide⟩
    obtain ⟨T454, h454, X454, e454, W454, st454⟩ := stC X448 hx hZ0 e448 Ar454 (j := 9) hin454 (g := (mkF m 524 #[rv a1, iv p1] [(.int c9), (.int 9), (.ref b394), (.ref b394), (.ref b390), (.ref b390)])) rfl rfl (B d16_524)
    rw [rc9.nc] at W454
    have pre455 : Go p e bl T454 (mkF m 525 #[rv a1, iv p1] [(.ref b394), (.ref b390), (.ref b390)]) s1 EF := fun t k => pre453 t (st454 t k)
    have O456 : Old Z n0 h454 := O450.wr W454 g_b394
    have Z456 : n0 ≤ h454.size := Nat.le_trans Z450 (Keep.of_wr W454).1
    have hk456 := Nat.le_trans hk450 (Keep.of_wr W454).1
    have C456 := CHv.wr W454 sf450_b394 C450
    have R456 := R450.trans (CHr.wr W454 sf450_b394 C450)
    have sf456_b390 := Safe.wr W454 sf450_b394 C450 sf450_b390
    have sf456_b394 := Safe.wr W454 sf450_b394 C450 sf450_b394
    have K456 : Keep h0 h454 [] := K450.wr W454 (Or.inr sz_b394)
    have V454 : Arv Z h454 b394 k394 .char (10 : Int32) [(.int c0), (.int c1), (.int c2), (.int c3), (.int c4), (.int c5), (.int c6), (.int c7), (.int c8), (.int c9)] (.int 0) := Arv.set Ar454 q454 Sz454 M454 H454 G454 (own_fitc rc9.nc) W454 9 rfl (wl rfl)
    have N454 := Fr.snoc X454 N448 g_b394
    obtain ⟨_, _, ⟨T457, L457, k457, n457⟩, -, X457, ⟨Lc457, hQ457, l457, y457, z457⟩, st457⟩ := X454.specialBack hx (y := mN6) rfl hown0 (mvT hZ0 (hw _ (mW 8 rfl))) (mvT hZ0 (hw _ (mW 9 rfl))) (mvT hZ0 (hw _ (mW 10 rfl))) (by decide) (backOf (W := 1) (rmKj l Z a0 hw [] b390 b394 cz fv (10 : Int32) k394 [c0, c1, c2, c3, c4, c5, c6, c7, c8, c9] h454 n0 Z456 O456 J0 (((((((((((A390.ext Et394).wr W400).wr W406).wr W412).wr W418).wr W424).wr W430).wr W436).wr W442).wr W448).wr W454) g_b390 (Fld.other W454 (Fld.other W448 (Fld.other W442 (Fld.other W436 (Fld.other W430 (Fld.other W424 (Fld.other W418 (Fld.other W412 (Fld.other W406 (Fld.other W400 (F_value_b390.ext Et394) (Or.inl ne_b390_b394)) (Or.inl ne_b390_b394)) (Or.inl ne_b390_b394)) (Or.inl ne_b390_b394)) (Or.inl ne_b390_b394)) (Or.inl ne_b390_b394)) (Or.inl ne_b390_b394)) (Or.inl ne_b390_b394)) (Or.inl ne_b390_b394)) (Or.inl ne_b390_b394)) (Fld.other W454 (Fld.other W448 (Fld.other W442 (Fld.other W436 (Fld.other W430 (Fld.other W424 (Fld.other W418 (Fld.other W412 (Fld.other W406 (Fld.other W400 (F_coder_b390.ext Et394) (Or.inl ne_b390_b394)) (Or.inl ne_b390_b394)) (Or.inl ne_b390_b394)) (Or.inl ne_b390_b394)) (Or.inl ne_b390_b394)) (Or.inl ne_b390_b394)) (Or.inl ne_b390_b394)) (Or.inl ne_b390_b394)) (Or.inl ne_b390_b394)) (Or.inl ne_b390_b394)) V454 (by decide) rfl (wl rfl) (wl rfl) (List.forall_mem_cons.mpr ⟨rc0.le, (List.forall_mem_cons.mpr ⟨rc1.le, (List.forall_mem_cons.mpr ⟨rc2.le, (List.forall_mem_cons.mpr ⟨rc3.le, (List.forall_mem_cons.mpr ⟨rc4.le, (List.forall_mem_cons.mpr ⟨rc5.le, (List.forall_mem_cons.mpr ⟨rc6.le, (List.forall_mem_cons.mpr ⟨rc7.le, (List.forall_mem_cons.mpr ⟨rc8.le, (List.forall_mem_cons.mpr ⟨rc9.le, (fun _ q => nomatch q)⟩)⟩)⟩)⟩)⟩)⟩)⟩)⟩)⟩)⟩)) hZ0 (hw _ (mW 10 rfl)) (hw _ (mW 7 rfl)) (by decide) (by decide)) (g := (mkF m 525 #[rv a1, iv p1] [(.ref b394), (.ref b390), (.ref b390)])) rfl (hM rfl) (Steps.refl _) (a := b390) (argsL := [(.ref b394)]) (rest := [(.ref b390)]) (lenOf pd12 rfl) rfl (Nat.le_of_eq rfl) (B d16_525) (fun _ _ => ⟨rfl, e454, wl rfl, wl rfl⟩)
    dsimp only [Pt.U, Pt.locs, Pt.cells, Pt.slots] at X457 l457 y457 z457 st457 hQ457
    subst l457 y457 z457
    obtain ⟨rfl, N457q, K457, bv457, kb457, hsz457, SF457⟩ := hQ457
    have N457 := Fr.app N454 N457q
    have pre458 : Go p e bl T457 (mkF m 528 #[rv a1, iv p1] [(.ref b390)]) s1 EF := fun t k => pre455 t (st457.trans k)
    have O459 : Old Z n0 T457.heap := O456.keep K457 (allS g_b390 all0)
    have Z459 : n0 ≤ T457.heap.size := Nat.le_trans Z456 K457.1
    have hk459 := Nat.le_trans hk456 K457.1
    have C459 := CHv.keep K457 (sfS sf456_b390 sf0) C456
    have R459 := R456.trans (CHr.keep K457 (sfS sf456_b390 sf0) C456)
    have sf459_b390 := Safe.keep K457 (sfS sf456_b390 sf0) C456 sf456_b390
    have sf459_b394 := Safe.keep K457 (sfS sf456_b390 sf0) C456 sf456_b394
    have K459 : Keep h0 T457.heap [] := K456.trans K457 (allS (Or.inr sz_b390) all0)
    obtain ⟨fs, hr, hrun, hended, hend1, hend2, hend3, hsame⟩ := X457.leaveW hS0 hk459 (v := some (.ref b390)) (fun h => by rw [Bd.returns] at h; cases h)
    have hCH : CHr Z [("com/example/picketline/picketline/protocol/Protocol", 37), ("com/example/picketline/picketline/protocol/ProtocolNamedPinLaw", 20), ("com/example/picketline/picketline/protocol/ProtocolNamedPinLaw", 42), ("java/lang/String", 7)] s.vm s.heap T457.vm T457.heap := by rw [hh]; exact R459.trans (CHv.at X457 hZ0 (own_EW hw) C459)
    refine ⟨_, _, hEF ▸ pre458 _ (retOut X457 hx Bd.returns rfl (Or.inr (Or.inr (Or.inr (Or.inr ⟨rfl, rfl, rfl⟩)))) (B d16_528) hr), hrun, hended, _, _, rfl, ?_, hCH, hend1, hend2, hend3, hsame.mono (by decide) (by decide)⟩
    show QPx Z a1 p1 cz fv kc c0 c1 c2 c3 c4 c5 c6 c7 c8 c9 h0 n0 _ T457.heap _
    exact ⟨_, _, _, _, _, rfl, N457, K459, sz_b390, SF457, by rfl⟩
  have pre460 : Go p e bl s1 (mkF m 4 #[rv a1, iv p1] []) s1 EF := fun t k => pre1 t (XS.ifNo X0.here hx rfl (B d16_1) rfl ((if0 _ _).trans (flt hc1).2.2.1) k)
  obtain ⟨T461, h461, X461, e461, Et461, A461, D461, U461, st461⟩ := newO X0 hx hZ0 hown0 (hw _ (mW 5 rfl)) (hw _ (mW 6 rfl)) (hw _ (mW 7 rfl)) e0 (g := (mkF m 4 #[rv a1, iv p1] [])) rfl (B d16_4) (by decide) (by decide)
  obtain ⟨b461, g461⟩ : ∃ z, z = h0.size := ⟨_, rfl⟩
  rw [← g461] at A461 st461 D461
  have g_b461 : n0 ≤ b461 := Nat.le_trans Z0 (Nat.le_of_eq g461.symm)
  have sz_b461 : h0.size ≤ b461 := Nat.le_trans (Keep.refl h0 []).1 (Nat.le_of_eq g461.symm)
  have sfn_b461 : Safe Z [("com/example/picketline/picketline/protocol/Protocol", 37), ("com/example/picketline/picketline/protocol/ProtocolNamedPinLaw", 20), ("com/example/picketline/picketline/protocol/ProtocolNamedPinLaw", 42), ("java/lang/String", 7)] s.vm h0 b461 := Safe.new (Nat.le_of_eq g461.symm)
  have ne_a1_b461 : a1 ≠ b461 := Nat.ne_of_lt (Nat.lt_of_lt_of_le V1.lt (Nat.le_of_eq g461.symm))
  have pre462 : Go p e bl T461 (mkF m 7 #[rv a1, iv p1] [(.ref b461)]) s1 EF := fun t k => pre460 t (st461 t k)
  have O463 : Old Z n0 h461 := O0.ext Et461
  have Z463 : n0 ≤ h461.size := Nat.le_trans Z0 Et461.1
  have hk463 := Nat.le_trans hk0 Et461.1
  have C463 := CHv.ext Et461 hC
  have R463 := (CHr.refl hC).trans (CHr.ext Et461 hC)
  have sf463_b461 := Safe.ext Et461 hC sfn_b461
  have K463 : Keep h0 h461 [] := (Keep.refl h0 []).ext Et461
  have F_coder_b461 : Fld Z h461 b461 "java/lang/String" "coder" "B" (.int 0) := D461 (Or.inr (hw _ (mW 31 rfl))) (ty := .byte) (by decide)
  have F_value_b461 : Fld Z h461 b461 "java/lang/String" "value" "[B" .null := D461 (Or.inr (hw _ (mW 33 rfl))) (ty := (.array .byte)) (by decide)
  have pre464 : Go p e bl T461 (mkF m 9 #[rv a1, iv p1] [(.int 0), (.ref b461), (.ref b461)]) s1 EF := fun t k => pre462 t (by
   refine XS.dup X461.here hx rfl (B d16_7) rfl rfl ?_
   exact XS.iconst X461.here hx rfl (B d16_8) k)
  obtain ⟨T465, h465, k465, X465, e465, Et465, A465, st465⟩ := newP X461 hx hZ0 (hw _ (mW 0 rfl)) e461 (g := (mkF m 9 #[rv a1, iv p1] [(.int 0), (.ref b461), (.ref b461)])) rfl (B d16_9) rfl (by decide) (cap := 0) (by decide) (by decide) (by decide) (by decide)
  obtain ⟨b465, g465⟩ : ∃ z, z = h461.size := ⟨_, rfl⟩
  rw [← g465] at A465 st465
  have g_b465 : n0 ≤ b465 := Nat.le_trans Z463 (Nat.le_of_eq g465.symm)
  have sz_b465 : h0.size ≤ b465 := Nat.le_trans K463.1 (Nat.le_of_eq g465.symm)
  have sfn_b465 : Safe Z [("com/example/picketline/picketline/protocol/Protocol", 37), ("com/example/picketline/picketline/protocol/ProtocolNamedPinLaw", 20), ("com/example/picketline/picketline/protocol/ProtocolNamedPinLaw", 42), ("java/lang/String", 7)] s.vm h461 b465 := Safe.new (Nat.le_of_eq g465.symm)
  have ne_a1_b465 : a1 ≠ b465 := Nat.ne_of_lt (Nat.lt_of_lt_of_le (V1.ext Et461).lt (Nat.le_of_eq g465.symm))
  have ne_b461_b465 : b461 ≠ b465 := Nat.ne_of_lt (Nat.lt_of_lt_of_le A461.lt (Nat.le_of_eq g465.symm))
  have pre466 : Go p e bl T465 (mkF m 11 #[rv a1, iv p1] [(.ref b465), (.ref b461), (.ref b461)]) s1 EF := fun t k => pre464 t (st465 t k)
  have O467 : Old Z n0 h465 := O463.ext Et465
  have Z467 : n0 ≤ h465.size := Nat.le_trans Z463 Et465.1
  have hk467 := Nat.le_trans hk463 Et465.1
  have C467 := CHv.ext Et465 C463
  have R467 := R463.trans (CHr.ext Et465 C463)
  have sf467_b461 := Safe.ext Et465 C463 sf463_b461
  have sf467_b465 := Safe.ext Et465 C463 sfn_b465
  have K467 : Keep h0 h465 [] := K463.ext Et465
  have V465 : Arv Z h465 b465 k465 .char (0 : Int32) [] (.int 0) := (Arv.new A465 (by decide)).pad (pad_rep [] (.int 0) 0)
  obtain ⟨_, _, ⟨T468, L468, k468, n468⟩, -, XQ468, hSQ468, hgQ468, ⟨Lc468, hQ468, l468, y468, z468, hCH468⟩, st468⟩ := X465.specialBackS hx (y := mN6) rfl hown0 (mvT hZ0 (hw _ (mW 8 rfl))) (mvT hZ0 (hw _ (mW 9 rfl))) (mvT hZ0 (hw _ (mW 10 rfl))) (by decide) (backOfSH (W := 1) (rmKj0 l Z a0 hw [] b461 b465 cz fv k465 h465 n0 Z467 O467 J0 (A461.ext Et465) g_b461 (F_value_b461.ext Et465) (F_coder_b461.ext Et465) V465) hZ0 (hw _ (mW 10 rfl)) (hw _ (mW 7 rfl)) (by decide) (by decide) (own_EW hw) C467) (g := (mkF m 11 #[rv a1, iv p1] [(.ref b465), (.ref b461), (.ref b461)])) rfl (hM rfl) (Steps.refl _) (a := b461) (argsL := [(.ref b465)]) (rest := [(.ref b461)]) (lenOf pd12 rfl) rfl (Nat.le_of_eq rfl) (B d16_11) (fun _ _ => ⟨rfl, e465, wl rfl, wl rfl⟩)
  dsimp only [Pt.U, Pt.locs, Pt.cells, Pt.slots] at XQ468 hSQ468 hgQ468 hCH468 l468 y468 z468 st468 hQ468
  subst l468 y468 z468
  obtain ⟨X468, hS468, hZ468, hown468⟩ := rebS hS0 (by rw [e465]; exact hk467) XQ468 hSQ468 hgQ468 hZ0 hown0
  obtain ⟨rfl, N468q, K468, bv468, kb468, SF468⟩ := hQ468
  have N468 := Fr.app N0 N468q
  have pre469 : Go p e bl T468 (mkF m 14 #[rv a1, iv p1] [(.ref b461)]) s1 EF := fun t k => pre466 t (st468.trans k)
  have hk468 := Nat.le_refl T468.heap.size
  have R468 := R467.trans hCH468
  have O470 : Old Z n0 T468.heap := O467.keep K468 (allS g_b461 all0)
  have Z470 : n0 ≤ T468.heap.size := Nat.le_trans Z467 K468.1
  have K470 : Keep h0 T468.heap [] := K467.trans K468 (allS (Or.inr sz_b461) all0)
  obtain ⟨fs, hr, hrun, hended, hend1, hend2, hend3, hsame⟩ := X468.leaveW hS468 hk468 (v := some (.ref b461)) (fun h => by rw [Bd.returns] at h; cases h)
  have hCH : CHr Z [("com/example/picketline/picketline/protocol/Protocol", 37), ("com/example/picketline/picketline/protocol/ProtocolNamedPinLaw", 20), ("com/example/picketline/picketline/protocol/ProtocolNamedPinLaw", 42), ("java/lang/String", 7)] s.vm s.heap T468.vm T468.heap := by rw [hh]; exact R468.trans (CHv.at X468 hZ468 (own_EW hw) hCH468.1)
  refine ⟨_, _, hEF ▸ pre469 _ (retOut X468 hx Bd.returns rfl (Or.inr (Or.inr (Or.inr (Or.inr ⟨rfl, rfl, rfl⟩)))) (B d16_14) hr), hrun, hended, _, _, rfl, ?_, hCH, hend1, hend2, hend3, hsame.mono (by decide) (by decide)⟩
  show QPx Z a1 p1 cz fv kc c0 c1 c2 c3 c4 c5 c6 c7 c8 c9 h0 n0 _ T468.heap _
  exact ⟨_, _, _, _, _, rfl, N468, K470, sz_b461, SF468, by rfl⟩
def QPl (Z : State) (h0 : Heap) (n0 : Nat) (v : Option Value) (h : Heap) (L : List Loc) : Prop := ∃ b bb k n bs, v = some (.ref b) ∧ Fr n0 L ∧ Keep h0 h [] ∧ h0.size ≤ b ∧ StL Z h b bb k n bs 0 0 ∧ n.toInt = bs.length
theorem rmPL (l : Launch) (Z : State) (a0 : Array Value) (hw : HW a0 Z) (ws : List Jvm.Cond) (a1 : Addr) (p1 : Int32) (cz : Int32) (fv : Value) (kc : ClassId) (cs : List Int32) (h0 : Heap) (n0 : Nat) (Z0 : n0 ≤ h0.size) (O0 : Old Z n0 h0) (J0 : Jd Z cz fv) (V1 : Arv Z h0 a1 kc .char (10 : Int32) (BV cs) (.int 0)) (hl : cs.length = 10) (hr : ∀ c ∈ cs, okb c) :
    MetFree l mN16 (head1 (Jvm.Cond.code mN16 method_3_code 2 (some (.object "java/lang/String")) :: ws) rKPx) (fun a U => a = #[(.ref a1), (.int p1)] ∧ Z.Warmed39 U.vm ∧ U.heap = h0 ∧ CHv Z [("com/example/picketline/picketline/protocol/Protocol", 37), ("com/example/picketline/picketline/protocol/ProtocolNamedPinLaw", 20), ("com/example/picketline/picketline/protocol/ProtocolNamedPinLaw", 42), ("java/lang/String", 7)] U.vm h0) (fun _ _ _ _ _ => True) (fun _ U o U' => ∃ v L, o = .returned v ∧ QPl Z h0 n0 v U'.heap L ∧ CHr Z [("com/example/picketline/picketline/protocol/Protocol", 37), ("com/example/picketline/picketline/protocol/ProtocolNamedPinLaw", 20), ("com/example/picketline/picketline/protocol/ProtocolNamedPinLaw", 42), ("java/lang/String", 7)] U.vm U.heap U'.vm U'.heap ∧ ReturnedEndW U o U' L rKPx.cells rKPx.slots) := by
  obtain ⟨c0, c1, c2, c3, c4, c5, c6, c7, c8, c9, rfl⟩ := own_l10 hl
  exact rmPx l Z a0 hw ws a1 p1 cz fv kc c0 c1 c2 c3 c4 c5 c6 c7 c8 c9 h0 n0 Z0 O0 J0 V1 (hr c0 (mg 0 rfl)) (hr c1 (mg 1 rfl)) (hr c2 (mg 2 rfl)) (hr c3 (mg 3 rfl)) (hr c4 (mg 4 rfl)) (hr c5 (mg 5 rfl)) (hr c6 (mg 6 rfl)) (hr c7 (mg 7 rfl)) (hr c8 (mg 8 rfl)) (hr c9 (mg 9 rfl))
theorem pd13 : parseMethodDescriptor "([CI)Ljava/lang/String;" = some ⟨[(.array .char), .int], some (.object "java/lang/String")⟩ := by decide +kernel
theorem pd14 : parseMethodDescriptor "(Ljava/lang/String;)Ljava/util/Optional;" = some ⟨[(.object "java/lang/String")], some (.object "java/util/Optional")⟩ := by decide +kernel
theorem pd15 : parseMethodDescriptor "()Z" = some ⟨[], some .boolean⟩ := by decide +kernel
theorem pd16 : parseMethodDescriptor "()Ljava/lang/Object;" = some ⟨[], some (.object "java/lang/Object")⟩ := by decide +kernel
theorem efL (m : MethodId) (p1 : Int32) (p2 : Int32) (p3 : Int32) (p4 : Int32) (p5 : Int32) : entryFrame m #[(.int p1), (.int p2), (.int p3), (.int p4), (.int p5)] maxLocals = mkF m 0 #[iv p1, iv p2, iv p3, iv p4, iv p5, .unset, .unset, .unset, .unset, .unset, .unset] [] := by first | (simp [entryFrame, mkF, argsToLocals, Value.category, maxLocals]; done) | rfl
def QL (Z : State) (p1 : Int32) (p2 : Int32) (p3 : Int32) (p4 : Int32) (p5 : Int32) (cz : Int32) (fv : Value) (va : Addr) (w0 : Addr) (w1 : Addr) (eo : Addr) (z0 : Addr) (z1 : Addr) (v0 : Addr) (v1 : Addr) (kv : ClassId) (k0 : ClassId) (k1 : ClassId) (h0 : Heap) (n0 : Nat) (v : Option Value) (h : Heap) (L : List Loc) : Prop := v = some (.int 1) ∧ Fr n0 L
set_option maxRecDepth 65536 in
set_option maxHeartbeats 40000000 in
theorem rmL (l : Launch) (Z : State) (a0 : Array Value) (hw : HW a0 Z) (ws : List Jvm.Cond) (p1 : Int32) (p2 : Int32) (p3 : Int32) (p4 : Int32) (p5 : Int32) (cz : Int32) (fv : Value) (va : Addr) (w0 : Addr) (w1 : Addr) (eo : Addr) (z0 : Addr) (z1 : Addr) (v0 : Addr) (v1 : Addr) (kv : ClassId) (k0 : ClassId) (k1 : ClassId) (h0 : Heap) (n0 : Nat) (Z0 : n0 ≤ h0.size) (O0 : Old Z n0 h0) (J0 : Jd Z cz fv) (PP : Prk Z va w0 w1 eo z0 z1 v0 v1 kv k0 k1) :
    MetFree l x (head1 (Jvm.Cond.code x code maxLocals ret :: ws) room_1) (fun a U => a = #[(.int p1), (.int p2), (.int p3), (.int p4), (.int p5)] ∧ Z.Warmed39 U.vm ∧ U.heap = h0 ∧ CHv Z [("com/example/picketline/picketline/protocol/Protocol", 37), ("com/example/picketline/picketline/protocol/ProtocolNamedPinLaw", 20), ("com/example/picketline/picketline/protocol/ProtocolNamedPinLaw", 42), ("java/lang/String", 7)] U.vm h0) (fun _ _ _ _ _ => True) (fun _ U o U' => ∃ v L, o = .returned v ∧ QL Z p1 p2 p3 p4 p5 cz fv va w0 w1 eo z0 z1 v0 v1 kv k0 k1 h0 n0 v U'.heap L ∧ CHr Z [("com/example/picketline/picketline/protocol/Protocol", 37), ("com/example/picketline/picketline/protocol/ProtocolNamedPinLaw", 20), ("com/example/picketline/picketline/protocol/ProtocolNamedPinLaw", 42), ("java/lang/String", 7)] U.vm U.heap U'.vm U'.heap ∧ ReturnedEndW U o U' L room_1.cells room_1.slots) := by
  refine MetFree.of_bodySF (plainFor_of_name pn6) hisR ?_
  intro p e s m args bl meth c s1 Bd hml0 hP hK
  obtain ⟨rfl, hZ, hh, hC⟩ := hP
  have hx := Bd.exec
  have hby := Bd.bytes
  have B := @hb c _ hby
  have hM := fun {n : Nat} (h : n = maxLocals) => h.trans hml0.symm
  have hown : s.vm.findClass "com/example/picketline/picketline/protocol/ProtocolNamedPinLaw" = some m.cls := findClass_of_methodNamed Bd.named
  have X0 : Stand p l e room_1 (s.setVm s.vm) m #[(.int p1), (.int p2), (.int p3), (.int p4), (.int p5)] bl meth c s1 [] 0 0 := Stand.of_body Bd
  have e0 : s1.heap = h0 := by rw [← hh, Bd.state]; rfl
  have N0 := Fr.nil n0
  obtain ⟨EF, hEF⟩ : ∃ f, f = entryFrame m #[(.int p1), (.int p2), (.int p3), (.int p4), (.int p5)] maxLocals := ⟨_, rfl⟩
  have pre0 : Go p e bl s1 (mkF m 0 #[iv p1, iv p2, iv p3, iv p4, iv p5, .unset, .unset, .unset, .unset, .unset, .unset] []) s1 EF := fun t k => by rw [hEF]; exact castTop (efL m p1 p2 p3 p4 p5) k
  have hZ0 : Z.Warmed39 (s.setVm s.vm).vm := hZ
  have hown0 : (s.setVm s.vm).vm.findClass "com/example/picketline/picketline/protocol/ProtocolNamedPinLaw" = some m.cls := hown
  have hS0 : s.Since s.vm s.heap.size := (State.WarmedH.refl s).since _
  have hk0 : s.heap.size ≤ h0.size := by rw [← hh]; exact Nat.le_refl _
  have pre1 : Go p e bl s1 (mkF m 2 #[iv p1, iv p2, iv p3, iv p4, iv p5, .unset, .unset, .unset, .unset, .unset, .unset] [(.int 10)]) s1 EF := fun t k => pre0 t (by
   exact XS.bipush X0.here hx rfl (B at_0) k)
  obtain ⟨T2, h2, k2, X2, e2, Et2, A2, st2⟩ := newP X0 hx hZ0 (hw _ (mW 0 rfl)) e0 (g := (mkF m 2 #[iv p1, iv p2, iv p3, iv p4, iv p5, .unset, .unset, .unset, .unset, .unset, .unset] [(.int 10)])) rfl (B at_2) rfl (by decide) (cap := 10) (by decide) (by decide) (by decide) (by decide)
  obtain ⟨b2, g2⟩ : ∃ z, z = h0.size := ⟨_, rfl⟩
  rw [← g2] at A2 st2
  have g_b2 : n0 ≤ b2 := Nat.le_trans Z0 (Nat.le_of_eq g2.symm)
  have sfn_b2 : Safe Z [("com/example/picketline/picketline/protocol/Protocol", 37), ("com/example/picketline/picketline/protocol/ProtocolNamedPinLaw", 20), ("com/example/picketline/picketline/protocol/ProtocolNamedPinLaw", 42), ("java/lang/String", 7)] s.vm h0 b2 := Safe.new (Nat.le_of_eq g2.symm)
  have pre3 : Go p e bl T2 (mkF m 4 #[iv p1, iv p2, iv p3, iv p4, iv p5, .unset, .unset, .unset, .unset, .unset, .unset] [(.ref b2)]) s1 EF := fun t k => pre1 t (st2 t k)
  have O4 : Old Z n0 h2 := O0.ext Et2
  have Z4 : n0 ≤ h2.size := Nat.le_trans Z0 Et2.1
  have hk4 := Nat.le_trans hk0 Et2.1
  have C4 := CHv.ext Et2 hC
  have R4 := (CHr.refl hC).trans (CHr.ext Et2 hC)
  have sf4_b2 := Safe.ext Et2 hC sfn_b2
  have V2 : Arv Z h2 b2 k2 .char (10 : Int32) [(.int 0), (.int 0), (.int 0), (.int 0), (.int 0), (.int 0), (.int 0), (.int 0), (.int 0), (.int 0)] (.int 0) := (Arv.new A2 (by decide)).pad (pad_rep [] (.int 0) 10)
  have pre5 : Go p e bl T2 (mkF m 6 #[iv p1, iv p2, iv p3, iv p4, iv p5, rv b2, .unset, .unset, .unset, .unset, .unset] []) s1 EF := fun t k => pre3 t (by
   exact XS.astore X2.here hx rfl (B at_4) rfl rfl (l' := #[iv p1, iv p2, iv p3, iv p4, iv p5, rv b2, .unset, .unset, .unset, .unset, .unset]) rfl k)
  obtain ⟨TJ, LJ, hJ, bse, kJ, cJ, XJ, NJ, eJ, OJ, ZJ, hkJ, CJ, RJ, VJ, hlJ, hrJ, preJ⟩ : ∃ (TJ : State) (LJ : List Loc) (hJ : Heap) (bse : Int32) (kJ : ClassId) (cJ : List Int32), Stand p l e room_1 (s.setVm s.vm) m #[(.int p1), (.int p2), (.int p3), (.int p4), (.int p5)] bl meth c TJ LJ 1 10 ∧ Fr n0 LJ ∧ TJ.heap = hJ ∧ Old Z n0 hJ ∧ n0 ≤ hJ.size ∧ s.heap.size ≤ hJ.size ∧ CHv Z [("com/example/picketline/picketline/protocol/Protocol", 37), ("com/example/picketline/picketline/protocol/ProtocolNamedPinLaw", 20), ("com/example/picketline/picketline/protocol/ProtocolNamedPinLaw", 42), ("java/lang/String", 7)] s.vm hJ ∧ CHr Z [("com/example/picketline/picketline/protocol/Protocol", 37), ("com/example/picketline/picketline/protocol/ProtocolNamedPinLaw", 20), ("com/example/picketline/picketline/protocol/ProtocolNamedPinLaw", 42), ("java/lang/String", 7)] s.vm h0 s.vm hJ ∧ Arv Z hJ b2 kJ .char (10 : Int32) (BV cJ) (.int 0) ∧ cJ.length = 10 ∧ (∀ c ∈ cJ, okb c) ∧ Go p e bl TJ (mkF m 195 #[iv p1, iv p2, iv p3, iv p4, iv p5, rv b2, iv bse, .unset, .unset, .unset, .unset] []) s1 EF := by
    have pre7 : Go p e bl T2 (mkF m 9 #[iv p1, iv p2, iv p3, iv p4, iv p5, rv b2, .unset, .unset, .unset, .unset, .unset] [(.int (p1 &&& (1 : Int32)))]) s1 EF := fun t k => pre5 t (by
     refine XS.iloadN X2.here hx rfl (B at_6) rfl ?_
     refine XS.iconst X2.here hx rfl (B at_7) ?_
     exact XS.iand X2.here hx rfl (B at_8) rfl k)
    by_cases hc9 : (p1 &&& (1 : Int32)) = (0 : Int32)
    · have pre8 : Go p e bl T2 (mkF m 12 #[iv p1, iv p2, iv p3, iv p4, iv p5, rv b2, .unset, .unset, .unset, .unset, .unset] []) s1 EF := fun t k => pre7 t (XS.ifNo X2.here hx rfl (B at_9) rfl ((if0 _ _).trans (teq hc9).2) k)
      have pre9 : Go p e bl T2 (mkF m 17 #[iv p1, iv p2, iv p3, iv p4, iv p5, rv b2, .unset, .unset, .unset, .unset, .unset] [(.int 111), (.int 0), (.ref b2)]) s1 EF := fun t k => pre8 t (by
       refine XS.aload X2.here hx rfl (B at_12) rfl rfl ?_
       refine XS.iconst X2.here hx rfl (B at_14) ?_
       exact XS.bipush X2.here hx rfl (B at_15) k)
      obtain ⟨cl10, Ar10, q10, Sz10, M10, H10, G10⟩ := id V2
      have hin10 := inb_of (j := (0 : Int32)) Sz10 ⟨by decide, by decide⟩
      obtain ⟨T10, h10, X10, e10, W10, st10⟩ := stC X2 hx hZ0 e2 Ar10 (j := 0) hin10 (g := (mkF m 17 #[iv p1, iv p2, iv p3, iv p4, iv p5, rv b2, .unset, .unset, .unset, .unset, .unset] [(.int 111), (.int 0), (.ref b2)])) rfl rfl (B at_17)
      have pre11 : Go p e bl T10 (mkF m 18 #[iv p1, iv p2, iv p3, iv p4, iv p5, rv b2, .unset, .unset, .unset, .unset, .unset] []) s1 EF := fun t k => pre9 t (st10 t k)
      have O12 : Old Z n0 h10 := O4.wr W10 g_b2
      have Z12 : n0 ≤ h10.size := Nat.le_trans Z4 (Keep.of_wr W10).1
      have hk12 := Nat.le_trans hk4 (Keep.of_wr W10).1
      have C12 := CHv.wr W10 sf4_b2 C4
      have R12 := R4.trans (CHr.wr W10 sf4_b2 C4)
      have sf12_b2 := Safe.wr W10 sf4_b2 C4 sf4_b2
      have V10 : Arv Z h10 b2 k2 .char (10 : Int32) [(.int 111), (.int 0), (.int 0), (.int 0), (.int 0), (.int 0), (.int 0), (.int 0), (.int 0), (.int 0)] (.int 0) := Arv.set Ar10 q10 Sz10 M10 H10 G10 rfl W10 0 rfl (wl rfl)
      have N10 := Fr.snoc X10 N0 g_b2
      have pre13 : Go p e bl T10 (mkF m 23 #[iv p1, iv p2, iv p3, iv p4, iv p5, rv b2, .unset, .unset, .unset, .unset, .unset] [(.int 98), (.int 1), (.ref b2)]) s1 EF := fun t k => pre11 t (by
       refine XS.aload X10.here hx rfl (B at_18) rfl rfl ?_
       refine XS.iconst X10.here hx rfl (B at_20) ?_
       exact XS.bipush X10.here hx rfl (B at_21) k)
      obtain ⟨cl14, Ar14, q14, Sz14, M14, H14, G14⟩ := id V10
      have hin14 := inb_of (j := (1 : Int32)) Sz14 ⟨by decide, by decide⟩
      obtain ⟨T14, h14, X14, e14, W14, st14⟩ := stC X10 hx hZ0 e10 Ar14 (j := 1) hin14 (g := (mkF m 23 #[iv p1, iv p2, iv p3, iv p4, iv p5, rv b2, .unset, .unset, .unset, .unset, .unset] [(.int 98), (.int 1), (.ref b2)])) rfl rfl (B at_23)
      have pre15 : Go p e bl T14 (mkF m 24 #[iv p1, iv p2, iv p3, iv p4, iv p5, rv b2, .unset, .unset, .unset, .unset, .unset] []) s1 EF := fun t k => pre13 t (st14 t k)
      have O16 : Old Z n0 h14 := O12.wr W14 g_b2
      have Z16 : n0 ≤ h14.size := Nat.le_trans Z12 (Keep.of_wr W14).1
      have hk16 := Nat.le_trans hk12 (Keep.of_wr W14).1
      have C16 := CHv.wr W14 sf12_b2 C12
      have R16 := R12.trans (CHr.wr W14 sf12_b2 C12)
      have sf16_b2 := Safe.wr W14 sf12_b2 C12 sf12_b2
      have V14 : Arv Z h14 b2 k2 .char (10 : Int32) [(.int 111), (.int 98), (.int 0), (.int 0), (.int 0), (.int 0), (.int 0), (.int 0), (.int 0), (.int 0)] (.int 0) := Arv.set Ar14 q14 Sz14 M14 H14 G14 rfl W14 1 rfl (wl rfl)
      have N14 := Fr.snoc X14 N10 g_b2
      have pre17 : Go p e bl T14 (mkF m 29 #[iv p1, iv p2, iv p3, iv p4, iv p5, rv b2, .unset, .unset, .unset, .unset, .unset] [(.int 108), (.int 2), (.ref b2)]) s1 EF := fun t k => pre15 t (by
       refine XS.aload X14.here hx rfl (B at_24) rfl rfl ?_
       refine XS.iconst X14.here hx rfl (B at_26) ?_
       exact XS.bipush X14.here hx rfl (B at_27) k)
      obtain ⟨cl18, Ar18, q18, Sz18, M18, H18, G18⟩ := id V14
      have hin18 := inb_of (j := (2 : Int32)) Sz18 ⟨by decide, by decide⟩
      obtain ⟨T18, h18, X18, e18, W18, st18⟩ := stC X14 hx hZ0 e14 Ar18 (j := 2) hin18 (g := (mkF m 29 #[iv p1, iv p2, iv p3, iv p4, iv p5, rv b2, .unset, .unset, .unset, .unset, .unset] [(.int 108), (.int 2), (.ref b2)])) rfl rfl (B at_29)
      have pre19 : Go p e bl T18 (mkF m 30 #[iv p1, iv p2, iv p3, iv p4, iv p5, rv b2, .unset, .unset, .unset, .unset, .unset] []) s1 EF := fun t k => pre17 t (st18 t k)
      have O20 : Old Z n0 h18 := O16.wr W18 g_b2
      have Z20 : n0 ≤ h18.size := Nat.le_trans Z16 (Keep.of_wr W18).1
      have hk20 := Nat.le_trans hk16 (Keep.of_wr W18).1
      have C20 := CHv.wr W18 sf16_b2 C16
      have R20 := R16.trans (CHr.wr W18 sf16_b2 C16)
      have sf20_b2 := Safe.wr W18 sf16_b2 C16 sf16_b2
      have V18 : Arv Z h18 b2 k2 .char (10 : Int32) [(.int 111), (.int 98), (.int 108), (.int 0), (.int 0), (.int 0), (.int 0), (.int 0), (.int 0), (.int 0)] (.int 0) := Arv.set Ar18 q18 Sz18 M18 H18 G18 rfl W18 2 rfl (wl rfl)
      have N18 := Fr.snoc X18 N14 g_b2
      have pre21 : Go p e bl T18 (mkF m 35 #[iv p1, iv p2, iv p3, iv p4, iv p5, rv b2, .unset, .unset, .unset, .unset, .unset] [(.int 105), (.int 3), (.ref b2)]) s1 EF := fun t k => pre19 t (by
       refine XS.aload X18.here hx rfl (B at_30) rfl rfl ?_
       refine XS.iconst X18.here hx rfl (B at_32) ?_
       exact XS.bipush X18.here hx rfl (B at_33) k)
      obtain ⟨cl22, Ar22, q22, Sz22, M22, H22, G22⟩ := id V18
      have hin22 := inb_of (j := (3 : Int32)) Sz22 ⟨by decide, by decide⟩
      obtain ⟨T22, h22, X22, e22, W22, st22⟩ := stC X18 hx hZ0 e18 Ar22 (j := 3) hin22 (g := (mkF m 35 #[iv p1, iv p2, iv p3, iv p4, iv p5, rv b2, .unset, .unset, .unset, .unset, .unset] [(.int 105), (.int 3), (.ref b2)])) rfl rfl (B at_35)
      have pre23 : Go p e bl T22 (mkF m 36 #[iv p1, iv p2, iv p3, iv p4, iv p5, rv b2, .unset, .unset, .unset, .unset, .unset] []) s1 EF := fun t k => pre21 t (st22 t k)
      have O24 : Old Z n0 h22 := O20.wr W22 g_b2
      have Z24 : n0 ≤ h22.size := Nat.le_trans Z20 (Keep.of_wr W22).1
      have hk24 := Nat.le_trans hk20 (Keep.of_wr W22).1
      have C24 := CHv.wr W22 sf20_b2 C20
      have R24 := R20.trans (CHr.wr W22 sf20_b2 C20)
      have sf24_b2 := Safe.wr W22 sf20_b2 C20 sf20_b2
      have V22 : Arv Z h22 b2 k2 .char (10 : Int32) [(.int 111), (.int 98), (.int 108), (.int 105), (.int 0), (.int 0), (.int 0), (.int 0), (.int 0), (.int 0)] (.int 0) := Arv.set Ar22 q22 Sz22 M22 H22 G22 rfl W22 3 rfl (wl rfl)
      have N22 := Fr.snoc X22 N18 g_b2
      have pre25 : Go p e bl T22 (mkF m 41 #[iv p1, iv p2, iv p3, iv p4, iv p5, rv b2, .unset, .unset, .unset, .unset, .unset] [(.int 118), (.int 4), (.ref b2)]) s1 EF := fun t k => pre23 t (by
       refine XS.aload X22.here hx rfl (B at_36) rfl rfl ?_
       refine XS.iconst X22.here hx rfl (B at_38) ?_
       exact XS.bipush X22.here hx rfl (B at_39) k)
      obtain ⟨cl26, Ar26, q26, Sz26, M26, H26, G26⟩ := id V22
      have hin26 := inb_of (j := (4 : Int32)) Sz26 ⟨by decide, by decide⟩
      obtain ⟨T26, h26, X26, e26, W26, st26⟩ := stC X22 hx hZ0 e22 Ar26 (j := 4) hin26 (g := (mkF m 41 #[iv p1, iv p2, iv p3, iv p4, iv p5, rv b2, .unset, .unset, .unset, .unset, .unset] [(.int 118), (.int 4), (.ref b2)])) rfl rfl (B at_41)
      have pre27 : Go p e bl T26 (mkF m 42 #[iv p1, iv p2, iv p3, iv p4, iv p5, rv b2, .unset, .unset, .unset, .unset, .unset] []) s1 EF := fun t k => pre25 t (st26 t k)
      have O28 : Old Z n0 h26 := O24.wr W26 g_b2
      have Z28 : n0 ≤ h26.size := Nat.le_trans Z24 (Keep.of_wr W26).1
      have hk28 := Nat.le_trans hk24 (Keep.of_wr W26).1
      have C28 := CHv.wr W26 sf24_b2 C24
      have R28 := R24.trans (CHr.wr W26 sf24_b2 C24)
      have sf28_b2 := Safe.wr W26 sf24_b2 C24 sf24_b2
      have V26 : Arv Z h26 b2 k2 .char (10 : Int32) [(.int 111), (.int 98), (.int 108), (.int 105), (.int 118), (.int 0), (.int 0), (.int 0), (.int 0), (.int 0)] (.int 0) := Arv.set Ar26 q26 Sz26 M26 H26 G26 rfl W26 4 rfl (wl rfl)
      have N26 := Fr.snoc X26 N22 g_b2
      have pre29 : Go p e bl T26 (mkF m 47 #[iv p1, iv p2, iv p3, iv p4, iv p5, rv b2, .unset, .unset, .unset, .unset, .unset] [(.int 105), (.int 5), (.ref b2)]) s1 EF := fun t k => pre27 t (by
       refine XS.aload X26.here hx rfl (B at_42) rfl rfl ?_
       refine XS.iconst X26.here hx rfl (B at_44) ?_
       exact XS.bipush X26.here hx rfl (B at_45) k)
      obtain ⟨cl30, Ar30, q30, Sz30, M30, H30, G30⟩ := id V26
      have hin30 := inb_of (j := (5 : Int32)) Sz30 ⟨by decide, by decide⟩
      obtain ⟨T30, h30, X30, e30, W30, st30⟩ := stC X26 hx hZ0 e26 Ar30 (j := 5) hin30 (g := (mkF m 47 #[iv p1, iv p2, iv p3, iv p4, iv p5, rv b2, .unset, .unset, .unset, .unset, .unset] [(.int 105), (.int 5), (.ref b2)])) rfl rfl (B at_47)
      have pre31 : Go p e bl T30 (mkF m 48 #[iv p1, iv p2, iv p3, iv p4, iv p5, rv b2, .unset, .unset, .unset, .unset, .unset] []) s1 EF := fun t k => pre29 t (st30 t k)
      have O32 : Old Z n0 h30 := O28.wr W30 g_b2
      have Z32 : n0 ≤ h30.size := Nat.le_trans Z28 (Keep.of_wr W30).1
      have hk32 := Nat.le_trans hk28 (Keep.of_wr W30).1
      have C32 := CHv.wr W30 sf28_b2 C28
      have R32 := R28.trans (CHr.wr W30 sf28_b2 C28)
      have sf32_b2 := Safe.wr W30 sf28_b2 C28 sf28_b2
      have V30 : Arv Z h30 b2 k2 .char (10 : Int32) [(.int 111), (.int 98), (.int 108), (.int 105), (.int 118), (.int 105), (.int 0), (.int 0), (.int 0), (.int 0)] (.int 0) := Arv.set Ar30 q30 Sz30 M30 H30 G30 rfl W30 5 rfl (wl rfl)
      have N30 := Fr.snoc X30 N26 g_b2
      have pre33 : Go p e bl T30 (mkF m 54 #[iv p1, iv p2, iv p3, iv p4, iv p5, rv b2, .unset, .unset, .unset, .unset, .unset] [(.int 111), (.int 6), (.ref b2)]) s1 EF := fun t k => pre31 t (by
       refine XS.aload X30.here hx rfl (B at_48) rfl rfl ?_
       refine XS.bipush X30.here hx rfl (B at_50) ?_
       exact XS.bipush X30.here hx rfl (B at_52) k)
      obtain ⟨cl34, Ar34, q34, Sz34, M34, H34, G34⟩ := id V30
      have hin34 := inb_of (j := (6 : Int32)) Sz34 ⟨by decide, by decide⟩
      obtain ⟨T34, h34, X34, e34, W34, st34⟩ := stC X30 hx hZ0 e30 Ar34 (j := 6) hin34 (g := (mkF m 54 #[iv p1, iv p2, iv p3, iv p4, iv p5, rv b2, .unset, .unset, .unset, .unset, .unset] [(.int 111), (.int 6), (.ref b2)])) rfl rfl (B at_54)
      have pre35 : Go p e bl T34 (mkF m 55 #[iv p1, iv p2, iv p3, iv p4, iv p5, rv b2, .unset, .unset, .unset, .unset, .unset] []) s1 EF := fun t k => pre33 t (st34 t k)
      have O36 : Old Z n0 h34 := O32.wr W34 g_b2
      have Z36 : n0 ≤ h34.size := Nat.le_trans Z32 (Keep.of_wr W34).1
      have hk36 := Nat.le_trans hk32 (Keep.of_wr W34).1
      have C36 := CHv.wr W34 sf32_b2 C32
      have R36 := R32.trans (CHr.wr W34 sf32_b2 C32)
      have sf36_b2 := Safe.wr W34 sf32_b2 C32 sf32_b2
      have V34 : Arv Z h34 b2 k2 .char (10 : Int32) [(.int 111), (.int 98), (.int 108), (.int 105), (.int 118), (.int 105), (.int 111), (.int 0), (.int 0), (.int 0)] (.int 0) := Arv.set Ar34 q34 Sz34 M34 H34 G34 rfl W34 6 rfl (wl rfl)
      have N34 := Fr.snoc X34 N30 g_b2
      have pre37 : Go p e bl T34 (mkF m 61 #[iv p1, iv p2, iv p3, iv p4, iv p5, rv b2, .unset, .unset, .unset, .unset, .unset] [(.int 117), (.int 7), (.ref b2)]) s1 EF := fun t k => pre35 t (by
       refine XS.aload X34.here hx rfl (B at_55) rfl rfl ?_
       refine XS.bipush X34.here hx rfl (B at_57) ?_
       exact XS.bipush X34.here hx rfl (B at_59) k)
      obtain ⟨cl38, Ar38, q38, Sz38, M38, H38, G38⟩ := id V34
      have hin38 := inb_of (j := (7 : Int32)) Sz38 ⟨by decide, by decide⟩
      obtain ⟨T38, h38, X38, e38, W38, st38⟩ := stC X34 hx hZ0 e34 Ar38 (j := 7) hin38 (g := (mkF m 61 #[iv p1, iv p2, iv p3, iv p4, iv p5, rv b2, .unset, .unset, .unset, .unset, .unset] [(.int 117), (.int 7), (.ref b2)])) rfl rfl (B at_61)
      have pre39 : Go p e bl T38 (mkF m 62 #[iv p1, iv p2, iv p3, iv p4, iv p5, rv b2, .unset, .unset, .unset, .unset, .unset] []) s1 EF := fun t k => pre37 t (st38 t k)
      have O40 : Old Z n0 h38 := O36.wr W38 g_b2
      have Z40 : n0 ≤ h38.size := Nat.le_trans Z36 (Keep.of_wr W38).1
      have hk40 := Nat.le_trans hk36 (Keep.of_wr W38).1
      have C40 := CHv.wr W38 sf36_b2 C36
      have R40 := R36.trans (CHr.wr W38 sf36_b2 C36)
      have sf40_b2 := Safe.wr W38 sf36_b2 C36 sf36_b2
      have V38 : Arv Z h38 b2 k2 .char (10 : Int32) [(.int 111), (.int 98), (.int 108), (.int 105), (.int 118), (.int 105), (.int 111), (.int 117), (.int 0), (.int 0)] (.int 0) := Arv.set Ar38 q38 Sz38 M38 H38 G38 rfl W38 7 rfl (wl rfl)
      have N38 := Fr.snoc X38 N34 g_b2
      have pre41 : Go p e bl T38 (mkF m 68 #[iv p1, iv p2, iv p3, iv p4, iv p5, rv b2, .unset, .unset, .unset, .unset, .unset] [(.int 115), (.int 8), (.ref b2)]) s1 EF := fun t k => pre39 t (by
       refine XS.aload X38.here hx rfl (B at_62) rfl rfl ?_
       refine XS.bipush X38.here hx rfl (B at_64) ?_
       exact XS.bipush X38.here hx rfl (B at_66) k)
      obtain ⟨cl42, Ar42, q42, Sz42, M42, H42, G42⟩ := id V38
      have hin42 := inb_of (j := (8 : Int32)) Sz42 ⟨by decide, by decide⟩
      obtain ⟨T42, h42, X42, e42, W42, st42⟩ := stC X38 hx hZ0 e38 Ar42 (j := 8) hin42 (g := (mkF m 68 #[iv p1, iv p2, iv p3, iv p4, iv p5, rv b2, .unset, .unset, .unset, .unset, .unset] [(.int 115), (.int 8), (.ref b2)])) rfl rfl (B at_68)
      have pre43 : Go p e bl T42 (mkF m 69 #[iv p1, iv p2, iv p3, iv p4, iv p5, rv b2, .unset, .unset, .unset, .unset, .unset] []) s1 EF := fun t k => pre41 t (st42 t k)
      have O44 : Old Z n0 h42 := O40.wr W42 g_b2
      have Z44 : n0 ≤ h42.size := Nat.le_trans Z40 (Keep.of_wr W42).1
      have hk44 := Nat.le_trans hk40 (Keep.of_wr W42).1
      have C44 := CHv.wr W42 sf40_b2 C40
      have R44 := R40.trans (CHr.wr W42 sf40_b2 C40)
      have sf44_b2 := Safe.wr W42 sf40_b2 C40 sf40_b2
      have V42 : Arv Z h42 b2 k2 .char (10 : Int32) [(.int 111), (.int 98), (.int 108), (.int 105), (.int 118), (.int 105), (.int 111), (.int 117), (.int 115), (.int 0)] (.int 0) := Arv.set Ar42 q42 Sz42 M42 H42 G42 rfl W42 8 rfl (wl rfl)
      have N42 := Fr.snoc X42 N38 g_b2
      have pre45 : Go p e bl T42 (mkF m 79 #[iv p1, iv p2, iv p3, iv p4, iv p5, rv b2, .unset, .unset, .unset, .unset, .unset] [(.int ((p4 &&& (255 : Int32)).toUInt32.toUInt16.toUInt32.toInt32)), (.int 9), (.ref b2)]) s1 EF := fun t k => pre43 t (by
       refine XS.aload X42.here hx rfl (B at_69) rfl rfl ?_
       refine XS.bipush X42.here hx rfl (B at_71) ?_
       refine XS.iloadN X42.here hx rfl (B at_73) rfl ?_
       refine XS.sipush X42.here hx rfl (B at_74) ?_
       refine XS.iand X42.here hx rfl (B at_77) rfl ?_
       exact XS.i2c X42.here hx rfl (B at_78) rfl k)
      obtain ⟨cl46, Ar46, q46, Sz46, M46, H46, G46⟩ := id V42
      have hin46 := inb_of (j := (9 : Int32)) Sz46 ⟨by decide, by decide⟩
      obtain ⟨T46, h46, X46, e46, W46, st46⟩ := stC X42 hx hZ0 e42 Ar46 (j := 9) hin46 (g := (mkF m 79 #[iv p1, iv p2, iv p3, iv p4, iv p5, rv b2, .unset, .unset, .unset, .unset, .unset] [(.int ((p4 &&& (255 : Int32)).toUInt32.toUInt16.toUInt32.toInt32)), (.int 9), (.ref b2)])) rfl rfl (B at_79)
      rw [(own_i2c2 _)] at W46
      have pre47 : Go p e bl T46 (mkF m 80 #[iv p1, iv p2, iv p3, iv p4, iv p5, rv b2, .unset, .unset, .unset, .unset, .unset] []) s1 EF := fun t k => pre45 t (st46 t k)
      have O48 : Old Z n0 h46 := O44.wr W46 g_b2
      have Z48 : n0 ≤ h46.size := Nat.le_trans Z44 (Keep.of_wr W46).1
      have hk48 := Nat.le_trans hk44 (Keep.of_wr W46).1
      have C48 := CHv.wr W46 sf44_b2 C44
      have R48 := R44.trans (CHr.wr W46 sf44_b2 C44)
      have sf48_b2 := Safe.wr W46 sf44_b2 C44 sf44_b2
      have V46 : Arv Z h46 b2 k2 .char (10 : Int32) [(.int 111), (.int 98), (.int 108), (.int 105), (.int 118), (.int 105), (.int 111), (.int 117), (.int 115), (.int ((p4 &&& (255 : Int32)).toUInt32.toUInt16.toUInt32.toInt32))] (.int 0) := Arv.set Ar46 q46 Sz46 M46 H46 G46 (own_fitc (own_i2c2 _)) W46 9 rfl (wl rfl)
      have N46 := Fr.snoc X46 N42 g_b2
      have pre49 : Go p e bl T46 (mkF m 176 #[iv p1, iv p2, iv p3, iv p4, iv p5, rv b2, iv 9, .unset, .unset, .unset, .unset] [(.int (p1 &&& (2 : Int32)))]) s1 EF := fun t k => pre47 t (by
       refine XS.bipush X46.here hx rfl (B at_80) ?_
       refine XS.istore X46.here hx rfl (B at_82) rfl (l' := #[iv p1, iv p2, iv p3, iv p4, iv p5, rv b2, iv 9, .unset, .unset, .unset, .unset]) rfl ?_
       refine XS.goto X46.here hx rfl (pc0 := 84) (pc' := 173) rfl (B at_84) (by decide) (by decide) ?_
       refine XS.iloadN X46.here hx rfl (B at_173) rfl ?_
       refine XS.iconst X46.here hx rfl (B at_174) ?_
       exact XS.iand X46.here hx rfl (B at_175) rfl k)
      by_cases hc176 : (p1 &&& (2 : Int32)) = (0 : Int32)
      · have pre50 : Go p e bl T46 (mkF m 195 #[iv p1, iv p2, iv p3, iv p4, iv p5, rv b2, iv 9, .unset, .unset, .unset, .unset] []) s1 EF := fun t k => pre49 t (XS.ifYes X46.here hx rfl (pc0 := 176) (pc' := 195) rfl (B at_176) rfl ((if0 _ _).trans (teq hc176).1) (by decide) (by decide) k)
        have okl : ∀ c ∈ [(111 : Int32), (98 : Int32), (108 : Int32), (105 : Int32), (118 : Int32), (105 : Int32), (111 : Int32), (117 : Int32), (115 : Int32), ((p4 &&& (255 : Int32)).toUInt32.toUInt16.toUInt32.toInt32)], okb c := (List.forall_mem_cons.mpr ⟨(by decide), (List.forall_mem_cons.mpr ⟨(by decide), (List.forall_mem_cons.mpr ⟨(by decide), (List.forall_mem_cons.mpr ⟨(by decide), (List.forall_mem_cons.mpr ⟨(by decide), (List.forall_mem_cons.mpr ⟨(by decide), (List.forall_mem_cons.mpr ⟨(by decide), (List.forall_mem_cons.mpr ⟨(by decide), (List.forall_mem_cons.mpr ⟨(by decide), (List.forall_mem_cons.mpr ⟨(own_b255 _), (fun _ q => nomatch q)⟩)⟩)⟩)⟩)⟩)⟩)⟩)⟩)⟩)⟩)
        exact ⟨_, _, _, (9 : Int32), _, [(111 : Int32), (98 : Int32), (108 : Int32), (105 : Int32), (118 : Int32), (105 : Int32), (111 : Int32), (117 : Int32), (115 : Int32), ((p4 &&& (255 : Int32)).toUInt32.toUInt16.toUInt32.toInt32)], X46, N46, e46, O48, Z48, hk48, C48, R48, V46, rfl, okl, pre50⟩
      have pre51 : Go p e bl T46 (mkF m 179 #[iv p1, iv p2, iv p3, iv p4, iv p5, rv b2, iv 9, .unset, .unset, .unset, .unset] []) s1 EF := fun t k => pre49 t (XS.ifNo X46.here hx rfl (B at_176) rfl ((if0 _ _).trans (feq hc176).1) k)
      have pre52 : Go p e bl T46 (mkF m 194 #[iv p1, iv p2, iv p3, iv p4, iv p5, rv b2, iv 9, .unset, .unset, .unset, .unset] [(.int ((p3 &&& (255 : Int32)).toUInt32.toUInt16.toUInt32.toInt32)), (.int ((p2 &&& (2147483647 : Int32)) % (10 : Int32))), (.ref b2)]) s1 EF := fun t k => pre51 t (by
       refine XS.aload X46.here hx rfl (B at_179) rfl rfl ?_
       refine XS.iloadN X46.here hx rfl (B at_181) rfl ?_
       refine X46.ldcInt hx hown0 (mvT hZ0 (hw _ (mW 102 rfl))) (g := (mkF m 182 #[iv p1, iv p2, iv p3, iv p4, iv p5, rv b2, iv 9, .unset, .unset, .unset, .unset] [(.int p2), (.ref b2)])) rfl (B at_182) _ ?_
       refine XS.iand X46.here hx rfl (B at_184) rfl ?_
       refine XS.bipush X46.here hx rfl (B at_185) ?_
       refine iremM X46 hx rfl (B at_187) rfl (by decide) ?_
       refine XS.iloadN X46.here hx rfl (B at_188) rfl ?_
       refine XS.sipush X46.here hx rfl (B at_189) ?_
       refine XS.iand X46.here hx rfl (B at_192) rfl ?_
       exact XS.i2c X46.here hx rfl (B at_193) rfl k)
      obtain ⟨cl53, Ar53, q53, Sz53, M53, H53, G53⟩ := id V46
      have hin53 := inb_of (j := ((p2 &&& (2147483647 : Int32)) % (10 : Int32))) Sz53 (own_r10 p2)
      obtain ⟨T53, h53, X53, e53, W53, st53⟩ := stC X46 hx hZ0 e46 Ar53 (j := ((p2 &&& (2147483647 : Int32)) % (10 : Int32))) hin53 (g := (mkF m 194 #[iv p1, iv p2, iv p3, iv p4, iv p5, rv b2, iv 9, .unset, .unset, .unset, .unset] [(.int ((p3 &&& (255 : Int32)).toUInt32.toUInt16.toUInt32.toInt32)), (.int ((p2 &&& (2147483647 : Int32)) % (10 : Int32))), (.ref b2)])) rfl rfl (B at_194)
      rw [(own_i2c2 _)] at W53
      have pre54 : Go p e bl T53 (mkF m 195 #[iv p1, iv p2, iv p3, iv p4, iv p5, rv b2, iv 9, .unset, .unset, .unset, .unset] []) s1 EF := fun t k => pre52 t (st53 t k)
      have O55 : Old Z n0 h53 := O48.wr W53 g_b2
      have Z55 : n0 ≤ h53.size := Nat.le_trans Z48 (Keep.of_wr W53).1
      have hk55 := Nat.le_trans hk48 (Keep.of_wr W53).1
      have C55 := CHv.wr W53 sf48_b2 C48
      have R55 := R48.trans (CHr.wr W53 sf48_b2 C48)
      have sf55_b2 := Safe.wr W53 sf48_b2 C48 sf48_b2
      have V53 : Arv Z h53 b2 k2 .char (10 : Int32) ([(.int 111), (.int 98), (.int 108), (.int 105), (.int 118), (.int 105), (.int 111), (.int 117), (.int 115), (.int ((p4 &&& (255 : Int32)).toUInt32.toUInt16.toUInt32.toInt32))].set (((p2 &&& (2147483647 : Int32)) % (10 : Int32))).toNatClampNeg (.int ((p3 &&& (255 : Int32)).toUInt32.toUInt16.toUInt32.toInt32))) (.int 0) := Arv.set Ar53 q53 Sz53 M53 H53 G53 (own_fitc (own_i2c2 _)) W53 (((p2 &&& (2147483647 : Int32)) % (10 : Int32))).toNatClampNeg rfl (own_n10 p2 rfl)
      have N53 := Fr.snoc X53 N46 g_b2
      have okl : ∀ c ∈ [(111 : Int32), (98 : Int32), (108 : Int32), (105 : Int32), (118 : Int32), (105 : Int32), (111 : Int32), (117 : Int32), (115 : Int32), ((p4 &&& (255 : Int32)).toUInt32.toUInt16.toUInt32.toInt32)], okb c := (List.forall_mem_cons.mpr ⟨(by decide), (List.forall_mem_cons.mpr ⟨(by decide), (List.forall_mem_cons.mpr ⟨(by decide), (List.forall_mem_cons.mpr ⟨(by decide), (List.forall_mem_cons.mpr ⟨(by decide), (List.forall_mem_cons.mpr ⟨(by decide), (List.forall_mem_cons.mpr ⟨(by decide), (List.forall_mem_cons.mpr ⟨(by decide), (List.forall_mem_cons.mpr ⟨(by decide), (List.forall_mem_cons.mpr ⟨(own_b255 _), (fun _ q => nomatch q)⟩)⟩)⟩)⟩)⟩)⟩)⟩)⟩)⟩)⟩)
      have VBx := V53
      rw [show [(.int 111), (.int 98), (.int 108), (.int 105), (.int 118), (.int 105), (.int 111), (.int 117), (.int 115), (.int ((p4 &&& (255 : Int32)).toUInt32.toUInt16.toUInt32.toInt32))] = BV [(111 : Int32), (98 : Int32), (108 : Int32), (105 : Int32), (118 : Int32), (105 : Int32), (111 : Int32), (117 : Int32), (115 : Int32), ((p4 &&& (255 : Int32)).toUInt32.toUInt16.toUInt32.toInt32)] from rfl, own_bvset] at VBx
      exact ⟨_, _, _, (9 : Int32), _, ([(111 : Int32), (98 : Int32), (108 : Int32), (105 : Int32), (118 : Int32), (105 : Int32), (111 : Int32), (117 : Int32), (115 : Int32), ((p4 &&& (255 : Int32)).toUInt32.toUInt16.toUInt32.toInt32)].set (((p2 &&& (2147483647 : Int32)) % (10 : Int32))).toNatClampNeg ((p3 &&& (255 : Int32)).toUInt32.toUInt16.toUInt32.toInt32)), X53, N53, e53, O55, Z55, hk55, C55, R55, VBx, (by rw [List.length_set]; rfl), (fun x hx => (List.mem_or_eq_of_mem_set hx).elim (okl x) (fun e => e ▸ own_b255 _)), pre54⟩
    have pre56 : Go p e bl T2 (mkF m 87 #[iv p1, iv p2, iv p3, iv p4, iv p5, rv b2, .unset, .unset, .unset, .unset, .unset] []) s1 EF := fun t k => pre7 t (XS.ifYes X2.here hx rfl (pc0 := 9) (pc' := 87) rfl (B at_9) rfl ((if0 _ _).trans (feq hc9).2) (by decide) (by decide) k)
    have pre57 : Go p e bl T2 (mkF m 92 #[iv p1, iv p2, iv p3, iv p4, iv p5, rv b2, .unset, .unset, .unset, .unset, .unset] [(.int 116), (.int 0), (.ref b2)]) s1 EF := fun t k => pre56 t (by
     refine XS.aload X2.here hx rfl (B at_87) rfl rfl ?_
     refine XS.iconst X2.here hx rfl (B at_89) ?_
     exact XS.bipush X2.here hx rfl (B at_90) k)
    obtain ⟨cl58, Ar58, q58, Sz58, M58, H58, G58⟩ := id V2
    have hin58 := inb_of (j := (0 : Int32)) Sz58 ⟨by decide, by decide⟩
    obtain ⟨T58, h58, X58, e58, W58, st58⟩ := stC X2 hx hZ0 e2 Ar58 (j := 0) hin58 (g := (mkF m 92 #[iv p1, iv p2, iv p3, iv p4, iv p5, rv b2, .unset, .unset, .unset, .unset, .unset] [(.int 116), (.int 0), (.ref b2)])) rfl rfl (B at_92)
    have pre59 : Go p e bl T58 (mkF m 93 #[iv p1, iv p2, iv p3, iv p4, iv p5, rv b2, .unset, .unset, .unset, .unset, .unset] []) s1 EF := fun t k => pre57 t (st58 t k)
    have O60 : Old Z n0 h58 := O4.wr W58 g_b2
    have Z60 : n0 ≤ h58.size := Nat.le_trans Z4 (Keep.of_wr W58).1
    have hk60 := Nat.le_trans hk4 (Keep.of_wr W58).1
    have C60 := CHv.wr W58 sf4_b2 C4
    have R60 := R4.trans (CHr.wr W58 sf4_b2 C4)
    have sf60_b2 := Safe.wr W58 sf4_b2 C4 sf4_b2
    have V58 : Arv Z h58 b2 k2 .char (10 : Int32) [(.int 116), (.int 0), (.int 0), (.int 0), (.int 0), (.int 0), (.int 0), (.int 0), (.int 0), (.int 0)] (.int 0) := Arv.set Ar58 q58 Sz58 M58 H58 G58 rfl W58 0 rfl (wl rfl)
    have N58 := Fr.snoc X58 N0 g_b2
    have pre61 : Go p e bl T58 (mkF m 98 #[iv p1, iv p2, iv p3, iv p4, iv p5, rv b2, .unset, .unset, .unset, .unset, .unset] [(.int 119), (.int 1), (.ref b2)]) s1 EF := fun t k => pre59 t (by
     refine XS.aload X58.here hx rfl (B at_93) rfl rfl ?_
     refine XS.iconst X58.here hx rfl (B at_95) ?_
     exact XS.bipush X58.here hx rfl (B at_96) k)
    obtain ⟨cl62, Ar62, q62, Sz62, M62, H62, G62⟩ := id V58
    have hin62 := inb_of (j := (1 : Int32)) Sz62 ⟨by decide, by decide⟩
    obtain ⟨T62, h62, X62, e62, W62, st62⟩ := stC X58 hx hZ0 e58 Ar62 (j := 1) hin62 (g := (mkF m 98 #[iv p1, iv p2, iv p3, iv p4, iv p5, rv b2, .unset, .unset, .unset, .unset, .unset] [(.int 119), (.int 1), (.ref b2)])) rfl rfl (B at_98)
    have pre63 : Go p e bl T62 (mkF m 99 #[iv p1, iv p2, iv p3, iv p4, iv p5, rv b2, .unset, .unset, .unset, .unset, .unset] []) s1 EF := fun t k => pre61 t (st62 t k)
    have O64 : Old Z n0 h62 := O60.wr W62 g_b2
    have Z64 : n0 ≤ h62.size := Nat.le_trans Z60 (Keep.of_wr W62).1
    have hk64 := Nat.le_trans hk60 (Keep.of_wr W62).1
    have C64 := CHv.wr W62 sf60_b2 C60
    have R64 := R60.trans (CHr.wr W62 sf60_b2 C60)
    have sf64_b2 := Safe.wr W62 sf60_b2 C60 sf60_b2
    have V62 : Arv Z h62 b2 k2 .char (10 : Int32) [(.int 116), (.int 119), (.int 0), (.int 0), (.int 0), (.int 0), (.int 0), (.int 0), (.int 0), (.int 0)] (.int 0) := Arv.set Ar62 q62 Sz62 M62 H62 G62 rfl W62 1 rfl (wl rfl)
    have N62 := Fr.snoc X62 N58 g_b2
    have pre65 : Go p e bl T62 (mkF m 104 #[iv p1, iv p2, iv p3, iv p4, iv p5, rv b2, .unset, .unset, .unset, .unset, .unset] [(.int 111), (.int 2), (.ref b2)]) s1 EF := fun t k => pre63 t (by
     refine XS.aload X62.here hx rfl (B at_99) rfl rfl ?_
     refine XS.iconst X62.here hx rfl (B at_101) ?_
     exact XS.bipush X62.here hx rfl (B at_102) k)
    obtain ⟨cl66, Ar66, q66, Sz66, M66, H66, G66⟩ := id V62
    have hin66 := inb_of (j := (2 : Int32)) Sz66 ⟨by decide, by decide⟩
    obtain ⟨T66, h66, X66, e66, W66, st66⟩ := stC X62 hx hZ0 e62 Ar66 (j := 2) hin66 (g := (mkF m 104 #[iv p1, iv p2, iv p3, iv p4, iv p5, rv b2, .unset, .unset, .unset, .unset, .unset] [(.int 111), (.int 2), (.ref b2)])) rfl rfl (B at_104)
    have pre67 : Go p e bl T66 (mkF m 105 #[iv p1, iv p2, iv p3, iv p4, iv p5, rv b2, .unset, .unset, .unset, .unset, .unset] []) s1 EF := fun t k => pre65 t (st66 t k)
    have O68 : Old Z n0 h66 := O64.wr W66 g_b2
    have Z68 : n0 ≤ h66.size := Nat.le_trans Z64 (Keep.of_wr W66).1
    have hk68 := Nat.le_trans hk64 (Keep.of_wr W66).1
    have C68 := CHv.wr W66 sf64_b2 C64
    have R68 := R64.trans (CHr.wr W66 sf64_b2 C64)
    have sf68_b2 := Safe.wr W66 sf64_b2 C64 sf64_b2
    have V66 : Arv Z h66 b2 k2 .char (10 : Int32) [(.int 116), (.int 119), (.int 111), (.int 0), (.int 0), (.int 0), (.int 0), (.int 0), (.int 0), (.int 0)] (.int 0) := Arv.set Ar66 q66 Sz66 M66 H66 G66 rfl W66 2 rfl (wl rfl)
    have N66 := Fr.snoc X66 N62 g_b2
    have pre69 : Go p e bl T66 (mkF m 110 #[iv p1, iv p2, iv p3, iv p4, iv p5, rv b2, .unset, .unset, .unset, .unset, .unset] [(.int 45), (.int 3), (.ref b2)]) s1 EF := fun t k => pre67 t (by
     refine XS.aload X66.here hx rfl (B at_105) rfl rfl ?_
     refine XS.iconst X66.here hx rfl (B at_107) ?_
     exact XS.bipush X66.here hx rfl (B at_108) k)
    obtain ⟨cl70, Ar70, q70, Sz70, M70, H70, G70⟩ := id V66
    have hin70 := inb_of (j := (3 : Int32)) Sz70 ⟨by decide, by decide⟩
    obtain ⟨T70, h70, X70, e70, W70, st70⟩ := stC X66 hx hZ0 e66 Ar70 (j := 3) hin70 (g := (mkF m 110 #[iv p1, iv p2, iv p3, iv p4, iv p5, rv b2, .unset, .unset, .unset, .unset, .unset] [(.int 45), (.int 3), (.ref b2)])) rfl rfl (B at_110)
    have pre71 : Go p e bl T70 (mkF m 111 #[iv p1, iv p2, iv p3, iv p4, iv p5, rv b2, .unset, .unset, .unset, .unset, .unset] []) s1 EF := fun t k => pre69 t (st70 t k)
    have O72 : Old Z n0 h70 := O68.wr W70 g_b2
    have Z72 : n0 ≤ h70.size := Nat.le_trans Z68 (Keep.of_wr W70).1
    have hk72 := Nat.le_trans hk68 (Keep.of_wr W70).1
    have C72 := CHv.wr W70 sf68_b2 C68
    have R72 := R68.trans (CHr.wr W70 sf68_b2 C68)
    have sf72_b2 := Safe.wr W70 sf68_b2 C68 sf68_b2
    have V70 : Arv Z h70 b2 k2 .char (10 : Int32) [(.int 116), (.int 119), (.int 111), (.int 45), (.int 0), (.int 0), (.int 0), (.int 0), (.int 0), (.int 0)] (.int 0) := Arv.set Ar70 q70 Sz70 M70 H70 G70 rfl W70 3 rfl (wl rfl)
    have N70 := Fr.snoc X70 N66 g_b2
    have pre73 : Go p e bl T70 (mkF m 116 #[iv p1, iv p2, iv p3, iv p4, iv p5, rv b2, .unset, .unset, .unset, .unset, .unset] [(.int 98), (.int 4), (.ref b2)]) s1 EF := fun t k => pre71 t (by
     refine XS.aload X70.here hx rfl (B at_111) rfl rfl ?_
     refine XS.iconst X70.here hx rfl (B at_113) ?_
     exact XS.bipush X70.here hx rfl (B at_114) k)
    obtain ⟨cl74, Ar74, q74, Sz74, M74, H74, G74⟩ := id V70
    have hin74 := inb_of (j := (4 : Int32)) Sz74 ⟨by decide, by decide⟩
    obtain ⟨T74, h74, X74, e74, W74, st74⟩ := stC X70 hx hZ0 e70 Ar74 (j := 4) hin74 (g := (mkF m 116 #[iv p1, iv p2, iv p3, iv p4, iv p5, rv b2, .unset, .unset, .unset, .unset, .unset] [(.int 98), (.int 4), (.ref b2)])) rfl rfl (B at_116)
    have pre75 : Go p e bl T74 (mkF m 117 #[iv p1, iv p2, iv p3, iv p4, iv p5, rv b2, .unset, .unset, .unset, .unset, .unset] []) s1 EF := fun t k => pre73 t (st74 t k)
    have O76 : Old Z n0 h74 := O72.wr W74 g_b2
    have Z76 : n0 ≤ h74.size := Nat.le_trans Z72 (Keep.of_wr W74).1
    have hk76 := Nat.le_trans hk72 (Keep.of_wr W74).1
    have C76 := CHv.wr W74 sf72_b2 C72
    have R76 := R72.trans (CHr.wr W74 sf72_b2 C72)
    have sf76_b2 := Safe.wr W74 sf72_b2 C72 sf72_b2
    have V74 : Arv Z h74 b2 k2 .char (10 : Int32) [(.int 116), (.int 119), (.int 111), (.int 45), (.int 98), (.int 0), (.int 0), (.int 0), (.int 0), (.int 0)] (.int 0) := Arv.set Ar74 q74 Sz74 M74 H74 G74 rfl W74 4 rfl (wl rfl)
    have N74 := Fr.snoc X74 N70 g_b2
    have pre77 : Go p e bl T74 (mkF m 122 #[iv p1, iv p2, iv p3, iv p4, iv p5, rv b2, .unset, .unset, .unset, .unset, .unset] [(.int 105), (.int 5), (.ref b2)]) s1 EF := fun t k => pre75 t (by
     refine XS.aload X74.here hx rfl (B at_117) rfl rfl ?_
     refine XS.iconst X74.here hx rfl (B at_119) ?_
     exact XS.bipush X74.here hx rfl (B at_120) k)
    obtain ⟨cl78, Ar78, q78, Sz78, M78, H78, G78⟩ := id V74
    have hin78 := inb_of (j := (5 : Int32)) Sz78 ⟨by decide, by decide⟩
    obtain ⟨T78, h78, X78, e78, W78, st78⟩ := stC X74 hx hZ0 e74 Ar78 (j := 5) hin78 (g := (mkF m 122 #[iv p1, iv p2, iv p3, iv p4, iv p5, rv b2, .unset, .unset, .unset, .unset, .unset] [(.int 105), (.int 5), (.ref b2)])) rfl rfl (B at_122)
    have pre79 : Go p e bl T78 (mkF m 123 #[iv p1, iv p2, iv p3, iv p4, iv p5, rv b2, .unset, .unset, .unset, .unset, .unset] []) s1 EF := fun t k => pre77 t (st78 t k)
    have O80 : Old Z n0 h78 := O76.wr W78 g_b2
    have Z80 : n0 ≤ h78.size := Nat.le_trans Z76 (Keep.of_wr W78).1
    have hk80 := Nat.le_trans hk76 (Keep.of_wr W78).1
    have C80 := CHv.wr W78 sf76_b2 C76
    have R80 := R76.trans (CHr.wr W78 sf76_b2 C76)
    have sf80_b2 := Safe.wr W78 sf76_b2 C76 sf76_b2
    have V78 : Arv Z h78 b2 k2 .char (10 : Int32) [(.int 116), (.int 119), (.int 111), (.int 45), (.int 98), (.int 105), (.int 0), (.int 0), (.int 0), (.int 0)] (.int 0) := Arv.set Ar78 q78 Sz78 M78 H78 G78 rfl W78 5 rfl (wl rfl)
    have N78 := Fr.snoc X78 N74 g_b2
    have pre81 : Go p e bl T78 (mkF m 129 #[iv p1, iv p2, iv p3, iv p4, iv p5, rv b2, .unset, .unset, .unset, .unset, .unset] [(.int 116), (.int 6), (.ref b2)]) s1 EF := fun t k => pre79 t (by
     refine XS.aload X78.here hx rfl (B at_123) rfl rfl ?_
     refine XS.bipush X78.here hx rfl (B at_125) ?_
     exact XS.bipush X78.here hx rfl (B at_127) k)
    obtain ⟨cl82, Ar82, q82, Sz82, M82, H82, G82⟩ := id V78
    have hin82 := inb_of (j := (6 : Int32)) Sz82 ⟨by decide, by decide⟩
    obtain ⟨T82, h82, X82, e82, W82, st82⟩ := stC X78 hx hZ0 e78 Ar82 (j := 6) hin82 (g := (mkF m 129 #[iv p1, iv p2, iv p3, iv p4, iv p5, rv b2, .unset, .unset, .unset, .unset, .unset] [(.int 116), (.int 6), (.ref b2)])) rfl rfl (B at_129)
    have pre83 : Go p e bl T82 (mkF m 130 #[iv p1, iv p2, iv p3, iv p4, iv p5, rv b2, .unset, .unset, .unset, .unset, .unset] []) s1 EF := fun t k => pre81 t (st82 t k)
    have O84 : Old Z n0 h82 := O80.wr W82 g_b2
    have Z84 : n0 ≤ h82.size := Nat.le_trans Z80 (Keep.of_wr W82).1
    have hk84 := Nat.le_trans hk80 (Keep.of_wr W82).1
    have C84 := CHv.wr W82 sf80_b2 C80
    have R84 := R80.trans (CHr.wr W82 sf80_b2 C80)
    have sf84_b2 := Safe.wr W82 sf80_b2 C80 sf80_b2
    have V82 : Arv Z h82 b2 k2 .char (10 : Int32) [(.int 116), (.int 119), (.int 111), (.int 45), (.int 98), (.int 105), (.int 116), (.int 0), (.int 0), (.int 0)] (.int 0) := Arv.set Ar82 q82 Sz82 M82 H82 G82 rfl W82 6 rfl (wl rfl)
    have N82 := Fr.snoc X82 N78 g_b2
    have pre85 : Go p e bl T82 (mkF m 140 #[iv p1, iv p2, iv p3, iv p4, iv p5, rv b2, .unset, .unset, .unset, .unset, .unset] [(.int ((p4 &&& (255 : Int32)).toUInt32.toUInt16.toUInt32.toInt32)), (.int 7), (.ref b2)]) s1 EF := fun t k => pre83 t (by
     refine XS.aload X82.here hx rfl (B at_130) rfl rfl ?_
     refine XS.bipush X82.here hx rfl (B at_132) ?_
     refine XS.iloadN X82.here hx rfl (B at_134) rfl ?_
     refine XS.sipush X82.here hx rfl (B at_135) ?_
     refine XS.iand X82.here hx rfl (B at_138) rfl ?_
     exact XS.i2c X82.here hx rfl (B at_139) rfl k)
    obtain ⟨cl86, Ar86, q86, Sz86, M86, H86, G86⟩ := id V82
    have hin86 := inb_of (j := (7 : Int32)) Sz86 ⟨by decide, by decide⟩
    obtain ⟨T86, h86, X86, e86, W86, st86⟩ := stC X82 hx hZ0 e82 Ar86 (j := 7) hin86 (g := (mkF m 140 #[iv p1, iv p2, iv p3, iv p4, iv p5, rv b2, .unset, .unset, .unset, .unset, .unset] [(.int ((p4 &&& (255 : Int32)).toUInt32.toUInt16.toUInt32.toInt32)), (.int 7), (.ref b2)])) rfl rfl (B at_140)
    rw [(own_i2c2 _)] at W86
    have pre87 : Go p e bl T86 (mkF m 141 #[iv p1, iv p2, iv p3, iv p4, iv p5, rv b2, .unset, .unset, .unset, .unset, .unset] []) s1 EF := fun t k => pre85 t (st86 t k)
    have O88 : Old Z n0 h86 := O84.wr W86 g_b2
    have Z88 : n0 ≤ h86.size := Nat.le_trans Z84 (Keep.of_wr W86).1
    have hk88 := Nat.le_trans hk84 (Keep.of_wr W86).1
    have C88 := CHv.wr W86 sf84_b2 C84
    have R88 := R84.trans (CHr.wr W86 sf84_b2 C84)
    have sf88_b2 := Safe.wr W86 sf84_b2 C84 sf84_b2
    have V86 : Arv Z h86 b2 k2 .char (10 : Int32) [(.int 116), (.int 119), (.int 111), (.int 45), (.int 98), (.int 105), (.int 116), (.int ((p4 &&& (255 : Int32)).toUInt32.toUInt16.toUInt32.toInt32)), (.int 0), (.int 0)] (.int 0) := Arv.set Ar86 q86 Sz86 M86 H86 G86 (own_fitc (own_i2c2 _)) W86 7 rfl (wl rfl)
    have N86 := Fr.snoc X86 N82 g_b2
    have pre89 : Go p e bl T86 (mkF m 154 #[iv p1, iv p2, iv p3, iv p4, iv p5, rv b2, .unset, .unset, .unset, .unset, .unset] [(.int ((((p4.toUInt32 >>> ((8 : Int32) &&& 31).toUInt32).toInt32) &&& (255 : Int32)).toUInt32.toUInt16.toUInt32.toInt32)), (.int 8), (.ref b2)]) s1 EF := fun t k => pre87 t (by
     refine XS.aload X86.here hx rfl (B at_141) rfl rfl ?_
     refine XS.bipush X86.here hx rfl (B at_143) ?_
     refine XS.iloadN X86.here hx rfl (B at_145) rfl ?_
     refine XS.bipush X86.here hx rfl (B at_146) ?_
     refine XS.iushr X86.here hx rfl (B at_148) rfl ?_
     refine XS.sipush X86.here hx rfl (B at_149) ?_
     refine XS.iand X86.here hx rfl (B at_152) rfl ?_
     exact XS.i2c X86.here hx rfl (B at_153) rfl k)
    obtain ⟨cl90, Ar90, q90, Sz90, M90, H90, G90⟩ := id V86
    have hin90 := inb_of (j := (8 : Int32)) Sz90 ⟨by decide, by decide⟩
    obtain ⟨T90, h90, X90, e90, W90, st90⟩ := stC X86 hx hZ0 e86 Ar90 (j := 8) hin90 (g := (mkF m 154 #[iv p1, iv p2, iv p3, iv p4, iv p5, rv b2, .unset, .unset, .unset, .unset, .unset] [(.int ((((p4.toUInt32 >>> ((8 : Int32) &&& 31).toUInt32).toInt32) &&& (255 : Int32)).toUInt32.toUInt16.toUInt32.toInt32)), (.int 8), (.ref b2)])) rfl rfl (B at_154)
    rw [(own_i2c2 _)] at W90
    have pre91 : Go p e bl T90 (mkF m 155 #[iv p1, iv p2, iv p3, iv p4, iv p5, rv b2, .unset, .unset, .unset, .unset, .unset] []) s1 EF := fun t k => pre89 t (st90 t k)
    have O92 : Old Z n0 h90 := O88.wr W90 g_b2
    have Z92 : n0 ≤ h90.size := Nat.le_trans Z88 (Keep.of_wr W90).1
    have hk92 := Nat.le_trans hk88 (Keep.of_wr W90).1
    have C92 := CHv.wr W90 sf88_b2 C88
    have R92 := R88.trans (CHr.wr W90 sf88_b2 C88)
    have sf92_b2 := Safe.wr W90 sf88_b2 C88 sf88_b2
    have V90 : Arv Z h90 b2 k2 .char (10 : Int32) [(.int 116), (.int 119), (.int 111), (.int 45), (.int 98), (.int 105), (.int 116), (.int ((p4 &&& (255 : Int32)).toUInt32.toUInt16.toUInt32.toInt32)), (.int ((((p4.toUInt32 >>> ((8 : Int32) &&& 31).toUInt32).toInt32) &&& (255 : Int32)).toUInt32.toUInt16.toUInt32.toInt32)), (.int 0)] (.int 0) := Arv.set Ar90 q90 Sz90 M90 H90 G90 (own_fitc (own_i2c2 _)) W90 8 rfl (wl rfl)
    have N90 := Fr.snoc X90 N86 g_b2
    have pre93 : Go p e bl T90 (mkF m 168 #[iv p1, iv p2, iv p3, iv p4, iv p5, rv b2, .unset, .unset, .unset, .unset, .unset] [(.int ((((p4.toUInt32 >>> ((16 : Int32) &&& 31).toUInt32).toInt32) &&& (255 : Int32)).toUInt32.toUInt16.toUInt32.toInt32)), (.int 9), (.ref b2)]) s1 EF := fun t k => pre91 t (by
     refine XS.aload X90.here hx rfl (B at_155) rfl rfl ?_
     refine XS.bipush X90.here hx rfl (B at_157) ?_
     refine XS.iloadN X90.here hx rfl (B at_159) rfl ?_
     refine XS.bipush X90.here hx rfl (B at_160) ?_
     refine XS.iushr X90.here hx rfl (B at_162) rfl ?_
     refine XS.sipush X90.here hx rfl (B at_163) ?_
     refine XS.iand X90.here hx rfl (B at_166) rfl ?_
     exact XS.i2c X90.here hx rfl (B at_167) rfl k)
    obtain ⟨cl94, Ar94, q94, Sz94, M94, H94, G94⟩ := id V90
    have hin94 := inb_of (j := (9 : Int32)) Sz94 ⟨by decide, by decide⟩
    obtain ⟨T94, h94, X94, e94, W94, st94⟩ := stC X90 hx hZ0 e90 Ar94 (j := 9) hin94 (g := (mkF m 168 #[iv p1, iv p2, iv p3, iv p4, iv p5, rv b2, .unset, .unset, .unset, .unset, .unset] [(.int ((((p4.toUInt32 >>> ((16 : Int32) &&& 31).toUInt32).toInt32) &&& (255 : Int32)).toUInt32.toUInt16.toUInt32.toInt32)), (.int 9), (.ref b2)])) rfl rfl (B at_168)
    rw [(own_i2c2 _)] at W94
    have pre95 : Go p e bl T94 (mkF m 169 #[iv p1, iv p2, iv p3, iv p4, iv p5, rv b2, .unset, .unset, .unset, .unset, .unset] []) s1 EF := fun t k => pre93 t (st94 t k)
    have O96 : Old Z n0 h94 := O92.wr W94 g_b2
    have Z96 : n0 ≤ h94.size := Nat.le_trans Z92 (Keep.of_wr W94).1
    have hk96 := Nat.le_trans hk92 (Keep.of_wr W94).1
    have C96 := CHv.wr W94 sf92_b2 C92
    have R96 := R92.trans (CHr.wr W94 sf92_b2 C92)
    have sf96_b2 := Safe.wr W94 sf92_b2 C92 sf92_b2
    have V94 : Arv Z h94 b2 k2 .char (10 : Int32) [(.int 116), (.int 119), (.int 111), (.int 45), (.int 98), (.int 105), (.int 116), (.int ((p4 &&& (255 : Int32)).toUInt32.toUInt16.toUInt32.toInt32)), (.int ((((p4.toUInt32 >>> ((8 : Int32) &&& 31).toUInt32).toInt32) &&& (255 : Int32)).toUInt32.toUInt16.toUInt32.toInt32)), (.int ((((p4.toUInt32 >>> ((16 : Int32) &&& 31).toUInt32).toInt32) &&& (255 : Int32)).toUInt32.toUInt16.toUInt32.toInt32))] (.int 0) := Arv.set Ar94 q94 Sz94 M94 H94 G94 (own_fitc (own_i2c2 _)) W94 9 rfl (wl rfl)
    have N94 := Fr.snoc X94 N90 g_b2
    have pre97 : Go p e bl T94 (mkF m 176 #[iv p1, iv p2, iv p3, iv p4, iv p5, rv b2, iv 7, .unset, .unset, .unset, .unset] [(.int (p1 &&& (2 : Int32)))]) s1 EF := fun t k => pre95 t (by
     refine XS.bipush X94.here hx rfl (B at_169) ?_
     refine XS.istore X94.here hx rfl (B at_171) rfl (l' := #[iv p1, iv p2, iv p3, iv p4, iv p5, rv b2, iv 7, .unset, .unset, .unset, .unset]) rfl ?_
     refine XS.iloadN X94.here hx rfl (B at_173) rfl ?_
     refine XS.iconst X94.here hx rfl (B at_174) ?_
     exact XS.iand X94.here hx rfl (B at_175) rfl k)
    by_cases hc176 : (p1 &&& (2 : Int32)) = (0 : Int32)
    · have pre98 : Go p e bl T94 (mkF m 195 #[iv p1, iv p2, iv p3, iv p4, iv p5, rv b2, iv 7, .unset, .unset, .unset, .unset] []) s1 EF := fun t k => pre97 t (XS.ifYes X94.here hx rfl (pc0 := 176) (pc' := 195) rfl (B at_176) rfl ((if0 _ _).trans (teq hc176).1) (by decide) (by decide) k)
      have okl : ∀ c ∈ [(116 : Int32), (119 : Int32), (111 : Int32), (45 : Int32), (98 : Int32), (105 : Int32), (116 : Int32), ((p4 &&& (255 : Int32)).toUInt32.toUInt16.toUInt32.toInt32), ((((p4.toUInt32 >>> ((8 : Int32) &&& 31).toUInt32).toInt32) &&& (255 : Int32)).toUInt32.toUInt16.toUInt32.toInt32), ((((p4.toUInt32 >>> ((16 : Int32) &&& 31).toUInt32).toInt32) &&& (255 : Int32)).toUInt32.toUInt16.toUInt32.toInt32)], okb c := (List.forall_mem_cons.mpr ⟨(by decide), (List.forall_mem_cons.mpr ⟨(by decide), (List.forall_mem_cons.mpr ⟨(by decide), (List.forall_mem_cons.mpr ⟨(by decide), (List.forall_mem_cons.mpr ⟨(by decide), (List.forall_mem_cons.mpr ⟨(by decide), (List.forall_mem_cons.mpr ⟨(by decide), (List.forall_mem_cons.mpr ⟨(own_b255 _), (List.forall_mem_cons.mpr ⟨(own_b255 _), (List.forall_mem_cons.mpr ⟨(own_b255 _), (fun _ q => nomatch q)⟩)⟩)⟩)⟩)⟩)⟩)⟩)⟩)⟩)⟩)
      exact ⟨_, _, _, (7 : Int32), _, [(116 : Int32), (119 : Int32), (111 : Int32), (45 : Int32), (98 : Int32), (105 : Int32), (116 : Int32), ((p4 &&& (255 : Int32)).toUInt32.toUInt16.toUInt32.toInt32), ((((p4.toUInt32 >>> ((8 : Int32) &&& 31).toUInt32).toInt32) &&& (255 : Int32)).toUInt32.toUInt16.toUInt32.toInt32), ((((p4.toUInt32 >>> ((16 : Int32) &&& 31).toUInt32).toInt32) &&& (255 : Int32)).toUInt32.toUInt16.toUInt32.toInt32)], X94, N94, e94, O96, Z96, hk96, C96, R96, V94, rfl, okl, pre98⟩
    have pre99 : Go p e bl T94 (mkF m 179 #[iv p1, iv p2, iv p3, iv p4, iv p5, rv b2, iv 7, .unset, .unset, .unset, .unset] []) s1 EF := fun t k => pre97 t (XS.ifNo X94.here hx rfl (B at_176) rfl ((if0 _ _).trans (feq hc176).1) k)
    have pre100 : Go p e bl T94 (mkF m 194 #[iv p1, iv p2, iv p3, iv p4, iv p5, rv b2, iv 7, .unset, .unset, .unset, .unset] [(.int ((p3 &&& (255 : Int32)).toUInt32.toUInt16.toUInt32.toInt32)), (.int ((p2 &&& (2147483647 : Int32)) % (10 : Int32))), (.ref b2)]) s1 EF := fun t k => pre99 t (by
     refine XS.aload X94.here hx rfl (B at_179) rfl rfl ?_
     refine XS.iloadN X94.here hx rfl (B at_181) rfl ?_
     refine X94.ldcInt hx hown0 (mvT hZ0 (hw _ (mW 102 rfl))) (g := (mkF m 182 #[iv p1, iv p2, iv p3, iv p4, iv p5, rv b2, iv 7, .unset, .unset, .unset, .unset] [(.int p2), (.ref b2)])) rfl (B at_182) _ ?_
     refine XS.iand X94.here hx rfl (B at_184) rfl ?_
     refine XS.bipush X94.here hx rfl (B at_185) ?_
     refine iremM X94 hx rfl (B at_187) rfl (by decide) ?_
     refine XS.iloadN X94.here hx rfl (B at_188) rfl ?_
     refine XS.sipush X94.here hx rfl (B at_189) ?_
     refine XS.iand X94.here hx rfl (B at_192) rfl ?_
     exact XS.i2c X94.here hx rfl (B at_193) rfl k)
    obtain ⟨cl101, Ar101, q101, Sz101, M101, H101, G101⟩ := id V94
    have hin101 := inb_of (j := ((p2 &&& (2147483647 : Int32)) % (10 : Int32))) Sz101 (own_r10 p2)
    obtain ⟨T101, h101, X101, e101, W101, st101⟩ := stC X94 hx hZ0 e94 Ar101 (j := ((p2 &&& (2147483647 : Int32)) % (10 : Int32))) hin101 (g := (mkF m 194 #[iv p1, iv p2, iv p3, iv p4, iv p5, rv b2, iv 7, .unset, .unset, .unset, .unset] [(.int ((p3 &&& (255 : Int32)).toUInt32.toUInt16.toUInt32.toInt32)), (.int ((p2 &&& (2147483647 : Int32)) % (10 : Int32))), (.ref b2)])) rfl rfl (B at_194)
    rw [(own_i2c2 _)] at W101
    have pre102 : Go p e bl T101 (mkF m 195 #[iv p1, iv p2, iv p3, iv p4, iv p5, rv b2, iv 7, .unset, .unset, .unset, .unset] []) s1 EF := fun t k => pre100 t (st101 t k)
    have O103 : Old Z n0 h101 := O96.wr W101 g_b2
    have Z103 : n0 ≤ h101.size := Nat.le_trans Z96 (Keep.of_wr W101).1
    have hk103 := Nat.le_trans hk96 (Keep.of_wr W101).1
    have C103 := CHv.wr W101 sf96_b2 C96
    have R103 := R96.trans (CHr.wr W101 sf96_b2 C96)
    have sf103_b2 := Safe.wr W101 sf96_b2 C96 sf96_b2
    have V101 : Arv Z h101 b2 k2 .char (10 : Int32) ([(.int 116), (.int 119), (.int 111), (.int 45), (.int 98), (.int 105), (.int 116), (.int ((p4 &&& (255 : Int32)).toUInt32.toUInt16.toUInt32.toInt32)), (.int ((((p4.toUInt32 >>> ((8 : Int32) &&& 31).toUInt32).toInt32) &&& (255 : Int32)).toUInt32.toUInt16.toUInt32.toInt32)), (.int ((((p4.toUInt32 >>> ((16 : Int32) &&& 31).toUInt32).toInt32) &&& (255 : Int32)).toUInt32.toUInt16.toUInt32.toInt32))].set (((p2 &&& (2147483647 : Int32)) % (10 : Int32))).toNatClampNeg (.int ((p3 &&& (255 : Int32)).toUInt32.toUInt16.toUInt32.toInt32))) (.int 0) := Arv.set Ar101 q101 Sz101 M101 H101 G101 (own_fitc (own_i2c2 _)) W101 (((p2 &&& (2147483647 : Int32)) % (10 : Int32))).toNatClampNeg rfl (own_n10 p2 rfl)
    have N101 := Fr.snoc X101 N94 g_b2
    have okl : ∀ c ∈ [(116 : Int32), (119 : Int32), (111 : Int32), (45 : Int32), (98 : Int32), (105 : Int32), (116 : Int32), ((p4 &&& (255 : Int32)).toUInt32.toUInt16.toUInt32.toInt32), ((((p4.toUInt32 >>> ((8 : Int32) &&& 31).toUInt32).toInt32) &&& (255 : Int32)).toUInt32.toUInt16.toUInt32.toInt32), ((((p4.toUInt32 >>> ((16 : Int32) &&& 31).toUInt32).toInt32) &&& (255 : Int32)).toUInt32.toUInt16.toUInt32.toInt32)], okb c := (List.forall_mem_cons.mpr ⟨(by decide), (List.forall_mem_cons.mpr ⟨(by decide), (List.forall_mem_cons.mpr ⟨(by decide), (List.forall_mem_cons.mpr ⟨(by decide), (List.forall_mem_cons.mpr ⟨(by decide), (List.forall_mem_cons.mpr ⟨(by decide), (List.forall_mem_cons.mpr ⟨(by decide), (List.forall_mem_cons.mpr ⟨(own_b255 _), (List.forall_mem_cons.mpr ⟨(own_b255 _), (List.forall_mem_cons.mpr ⟨(own_b255 _), (fun _ q => nomatch q)⟩)⟩)⟩)⟩)⟩)⟩)⟩)⟩)⟩)⟩)
    have VBx := V101
    rw [show [(.int 116), (.int 119), (.int 111), (.int 45), (.int 98), (.int 105), (.int 116), (.int ((p4 &&& (255 : Int32)).toUInt32.toUInt16.toUInt32.toInt32)), (.int ((((p4.toUInt32 >>> ((8 : Int32) &&& 31).toUInt32).toInt32) &&& (255 : Int32)).toUInt32.toUInt16.toUInt32.toInt32)), (.int ((((p4.toUInt32 >>> ((16 : Int32) &&& 31).toUInt32).toInt32) &&& (255 : Int32)).toUInt32.toUInt16.toUInt32.toInt32))] = BV [(116 : Int32), (119 : Int32), (111 : Int32), (45 : Int32), (98 : Int32), (105 : Int32), (116 : Int32), ((p4 &&& (255 : Int32)).toUInt32.toUInt16.toUInt32.toInt32), ((((p4.toUInt32 >>> ((8 : Int32) &&& 31).toUInt32).toInt32) &&& (255 : Int32)).toUInt32.toUInt16.toUInt32.toInt32), ((((p4.toUInt32 >>> ((16 : Int32) &&& 31).toUInt32).toInt32) &&& (255 : Int32)).toUInt32.toUInt16.toUInt32.toInt32)] from rfl, own_bvset] at VBx
    exact ⟨_, _, _, (7 : Int32), _, ([(116 : Int32), (119 : Int32), (111 : Int32), (45 : Int32), (98 : Int32), (105 : Int32), (116 : Int32), ((p4 &&& (255 : Int32)).toUInt32.toUInt16.toUInt32.toInt32), ((((p4.toUInt32 >>> ((8 : Int32) &&& 31).toUInt32).toInt32) &&& (255 : Int32)).toUInt32.toUInt16.toUInt32.toInt32), ((((p4.toUInt32 >>> ((16 : Int32) &&& 31).toUInt32).toInt32) &&& (255 : Int32)).toUInt32.toUInt16.toUInt32.toInt32)].set (((p2 &&& (2147483647 : Int32)) % (10 : Int32))).toNatClampNeg ((p3 &&& (255 : Int32)).toUInt32.toUInt16.toUInt32.toInt32)), X101, N101, e101, O103, Z103, hk103, C103, R103, VBx, (by rw [List.length_set]; rfl), (fun x hx => (List.mem_or_eq_of_mem_set hx).elim (okl x) (fun e => e ▸ own_b255 _)), pre102⟩
  have pre104 : Go p e bl TJ (mkF m 202 #[iv p1, iv p2, iv p3, iv p4, iv p5, rv b2, iv bse, iv (((p1.toUInt32 >>> ((2 : Int32) &&& 31).toUInt32).toInt32) &&& (3 : Int32)), .unset, .unset, .unset] []) s1 EF := fun t k => preJ t (by
   refine XS.iloadN XJ.here hx rfl (B at_195) rfl ?_
   refine XS.iconst XJ.here hx rfl (B at_196) ?_
   refine XS.iushr XJ.here hx rfl (B at_197) rfl ?_
   refine XS.iconst XJ.here hx rfl (B at_198) ?_
   refine XS.iand XJ.here hx rfl (B at_199) rfl ?_
   exact XS.istore XJ.here hx rfl (B at_200) rfl (l' := #[iv p1, iv p2, iv p3, iv p4, iv p5, rv b2, iv bse, iv (((p1.toUInt32 >>> ((2 : Int32) &&& 31).toUInt32).toInt32) &&& (3 : Int32)), .unset, .unset, .unset]) rfl k)
  obtain ⟨T105, LJ105, nn, X105, N105, e105, pre105⟩ : ∃ (TJ : State) (LJ : List Loc) (nn : Int32), Stand p l e room_1 (s.setVm s.vm) m #[(.int p1), (.int p2), (.int p3), (.int p4), (.int p5)] bl meth c TJ LJ 1 10 ∧ Fr n0 LJ ∧ TJ.heap = hJ ∧ Go p e bl TJ (mkF m 254 #[iv p1, iv p2, iv p3, iv p4, iv p5, rv b2, iv bse, iv (((p1.toUInt32 >>> ((2 : Int32) &&& 31).toUInt32).toInt32) &&& (3 : Int32)), iv nn, .unset, .unset] []) s1 EF := by
    have pre106 : Go p e bl TJ (mkF m 204 #[iv p1, iv p2, iv p3, iv p4, iv p5, rv b2, iv bse, iv (((p1.toUInt32 >>> ((2 : Int32) &&& 31).toUInt32).toInt32) &&& (3 : Int32)), .unset, .unset, .unset] [(.int (((p1.toUInt32 >>> ((2 : Int32) &&& 31).toUInt32).toInt32) &&& (3 : Int32)))]) s1 EF := fun t k => pre104 t (by
     exact XS.iload XJ.here hx rfl (B at_202) rfl k)
    by_cases hc204 : (((p1.toUInt32 >>> ((2 : Int32) &&& 31).toUInt32).toInt32) &&& (3 : Int32)) = (0 : Int32)
    · have pre107 : Go p e bl TJ (mkF m 207 #[iv p1, iv p2, iv p3, iv p4, iv p5, rv b2, iv bse, iv (((p1.toUInt32 >>> ((2 : Int32) &&& 31).toUInt32).toInt32) &&& (3 : Int32)), .unset, .unset, .unset] []) s1 EF := fun t k => pre106 t (XS.ifNo XJ.here hx rfl (B at_204) rfl ((if0 _ _).trans (teq hc204).2) k)
      have pre108 : Go p e bl TJ (mkF m 254 #[iv p1, iv p2, iv p3, iv p4, iv p5, rv b2, iv bse, iv (((p1.toUInt32 >>> ((2 : Int32) &&& 31).toUInt32).toInt32) &&& (3 : Int32)), iv bse, .unset, .unset] []) s1 EF := fun t k => pre107 t (by
       refine XS.iload XJ.here hx rfl (B at_207) rfl ?_
       refine XS.istore XJ.here hx rfl (B at_209) rfl (l' := #[iv p1, iv p2, iv p3, iv p4, iv p5, rv b2, iv bse, iv (((p1.toUInt32 >>> ((2 : Int32) &&& 31).toUInt32).toInt32) &&& (3 : Int32)), iv bse, .unset, .unset]) rfl ?_
       exact XS.goto XJ.here hx rfl (pc0 := 211) (pc' := 254) rfl (B at_211) (by decide) (by decide) k)
      exact ⟨_, _, bse, XJ, NJ, eJ, pre108⟩
    have pre109 : Go p e bl TJ (mkF m 214 #[iv p1, iv p2, iv p3, iv p4, iv p5, rv b2, iv bse, iv (((p1.toUInt32 >>> ((2 : Int32) &&& 31).toUInt32).toInt32) &&& (3 : Int32)), .unset, .unset, .unset] []) s1 EF := fun t k => pre106 t (XS.ifYes XJ.here hx rfl (pc0 := 204) (pc' := 214) rfl (B at_204) rfl ((if0 _ _).trans (feq hc204).2) (by decide) (by decide) k)
    have pre110 : Go p e bl TJ (mkF m 217 #[iv p1, iv p2, iv p3, iv p4, iv p5, rv b2, iv bse, iv (((p1.toUInt32 >>> ((2 : Int32) &&& 31).toUInt32).toInt32) &&& (3 : Int32)), .unset, .unset, .unset] [(.int 1), (.int (((p1.toUInt32 >>> ((2 : Int32) &&& 31).toUInt32).toInt32) &&& (3 : Int32)))]) s1 EF := fun t k => pre109 t (by
     refine XS.iload XJ.here hx rfl (B at_214) rfl ?_
     exact XS.iconst XJ.here hx rfl (B at_216) k)
    by_cases hc217 : (((p1.toUInt32 >>> ((2 : Int32) &&& 31).toUInt32).toInt32) &&& (3 : Int32)) = (1 : Int32)
    · have pre111 : Go p e bl TJ (mkF m 220 #[iv p1, iv p2, iv p3, iv p4, iv p5, rv b2, iv bse, iv (((p1.toUInt32 >>> ((2 : Int32) &&& 31).toUInt32).toInt32) &&& (3 : Int32)), .unset, .unset, .unset] []) s1 EF := fun t k => pre110 t (XS.icmpNo XJ.here hx rfl (B at_217) rfl (teq hc217).2 k)
      have pre112 : Go p e bl TJ (mkF m 254 #[iv p1, iv p2, iv p3, iv p4, iv p5, rv b2, iv bse, iv (((p1.toUInt32 >>> ((2 : Int32) &&& 31).toUInt32).toInt32) &&& (3 : Int32)), iv (bse - (1 : Int32)), .unset, .unset] []) s1 EF := fun t k => pre111 t (by
       refine XS.iload XJ.here hx rfl (B at_220) rfl ?_
       refine XS.iconst XJ.here hx rfl (B at_222) ?_
       refine XS.isub XJ.here hx rfl (B at_223) rfl ?_
       refine XS.istore XJ.here hx rfl (B at_224) rfl (l' := #[iv p1, iv p2, iv p3, iv p4, iv p5, rv b2, iv bse, iv (((p1.toUInt32 >>> ((2 : Int32) &&& 31).toUInt32).toInt32) &&& (3 : Int32)), iv (bse - (1 : Int32)), .unset, .unset]) rfl ?_
       exact XS.goto XJ.here hx rfl (pc0 := 226) (pc' := 254) rfl (B at_226) (by decide) (by decide) k)
      exact ⟨_, _, (bse - (1 : Int32)), XJ, NJ, eJ, pre112⟩
    have pre113 : Go p e bl TJ (mkF m 229 #[iv p1, iv p2, iv p3, iv p4, iv p5, rv b2, iv bse, iv (((p1.toUInt32 >>> ((2 : Int32) &&& 31).toUInt32).toInt32) &&& (3 : Int32)), .unset, .unset, .unset] []) s1 EF := fun t k => pre110 t (XS.icmpYes XJ.here hx rfl (pc0 := 217) (pc' := 229) rfl (B at_217) rfl (feq hc217).2 (by decide) (by decide) k)
    have pre114 : Go p e bl TJ (mkF m 232 #[iv p1, iv p2, iv p3, iv p4, iv p5, rv b2, iv bse, iv (((p1.toUInt32 >>> ((2 : Int32) &&& 31).toUInt32).toInt32) &&& (3 : Int32)), .unset, .unset, .unset] [(.int 2), (.int (((p1.toUInt32 >>> ((2 : Int32) &&& 31).toUInt32).toInt32) &&& (3 : Int32)))]) s1 EF := fun t k => pre113 t (by
     refine XS.iload XJ.here hx rfl (B at_229) rfl ?_
     exact XS.iconst XJ.here hx rfl (B at_231) k)
    by_cases hc232 : (((p1.toUInt32 >>> ((2 : Int32) &&& 31).toUInt32).toInt32) &&& (3 : Int32)) = (2 : Int32)
    · have pre115 : Go p e bl TJ (mkF m 235 #[iv p1, iv p2, iv p3, iv p4, iv p5, rv b2, iv bse, iv (((p1.toUInt32 >>> ((2 : Int32) &&& 31).toUInt32).toInt32) &&& (3 : Int32)), .unset, .unset, .unset] []) s1 EF := fun t k => pre114 t (XS.icmpNo XJ.here hx rfl (B at_232) rfl (teq hc232).2 k)
      have pre116 : Go p e bl TJ (mkF m 254 #[iv p1, iv p2, iv p3, iv p4, iv p5, rv b2, iv bse, iv (((p1.toUInt32 >>> ((2 : Int32) &&& 31).toUInt32).toInt32) &&& (3 : Int32)), iv (bse + (1 : Int32)), .unset, .unset] []) s1 EF := fun t k => pre115 t (by
       refine XS.iload XJ.here hx rfl (B at_235) rfl ?_
       refine XS.iconst XJ.here hx rfl (B at_237) ?_
       refine XS.iadd XJ.here hx rfl (B at_238) rfl ?_
       refine XS.istore XJ.here hx rfl (B at_239) rfl (l' := #[iv p1, iv p2, iv p3, iv p4, iv p5, rv b2, iv bse, iv (((p1.toUInt32 >>> ((2 : Int32) &&& 31).toUInt32).toInt32) &&& (3 : Int32)), iv (bse + (1 : Int32)), .unset, .unset]) rfl ?_
       exact XS.goto XJ.here hx rfl (pc0 := 241) (pc' := 254) rfl (B at_241) (by decide) (by decide) k)
      exact ⟨_, _, (bse + (1 : Int32)), XJ, NJ, eJ, pre116⟩
    have pre117 : Go p e bl TJ (mkF m 244 #[iv p1, iv p2, iv p3, iv p4, iv p5, rv b2, iv bse, iv (((p1.toUInt32 >>> ((2 : Int32) &&& 31).toUInt32).toInt32) &&& (3 : Int32)), .unset, .unset, .unset] []) s1 EF := fun t k => pre114 t (XS.icmpYes XJ.here hx rfl (pc0 := 232) (pc' := 244) rfl (B at_232) rfl (feq hc232).2 (by decide) (by decide) k)
    have pre118 : Go p e bl TJ (mkF m 254 #[iv p1, iv p2, iv p3, iv p4, iv p5, rv b2, iv bse, iv (((p1.toUInt32 >>> ((2 : Int32) &&& 31).toUInt32).toInt32) &&& (3 : Int32)), iv ((p5 &&& (2147483647 : Int32)) % (11 : Int32)), .unset, .unset] []) s1 EF := fun t k => pre117 t (by
     refine XS.iload XJ.here hx rfl (B at_244) rfl ?_
     refine XJ.ldcInt hx hown0 (mvT hZ0 (hw _ (mW 102 rfl))) (g := (mkF m 246 #[iv p1, iv p2, iv p3, iv p4, iv p5, rv b2, iv bse, iv (((p1.toUInt32 >>> ((2 : Int32) &&& 31).toUInt32).toInt32) &&& (3 : Int32)), .unset, .unset, .unset] [(.int p5)])) rfl (B at_246) _ ?_
     refine XS.iand XJ.here hx rfl (B at_248) rfl ?_
     refine XS.bipush XJ.here hx rfl (B at_249) ?_
     refine iremM XJ hx rfl (B at_251) rfl (by decide) ?_
     exact XS.istore XJ.here hx rfl (B at_252) rfl (l' := #[iv p1, iv p2, iv p3, iv p4, iv p5, rv b2, iv bse, iv (((p1.toUInt32 >>> ((2 : Int32) &&& 31).toUInt32).toInt32) &&& (3 : Int32)), iv ((p5 &&& (2147483647 : Int32)) % (11 : Int32)), .unset, .unset]) rfl k)
    exact ⟨_, _, ((p5 &&& (2147483647 : Int32)) % (11 : Int32)), XJ, NJ, eJ, pre118⟩
  have pre119 : Go p e bl T105 (mkF m 258 #[iv p1, iv p2, iv p3, iv p4, iv p5, rv b2, iv bse, iv (((p1.toUInt32 >>> ((2 : Int32) &&& 31).toUInt32).toInt32) &&& (3 : Int32)), iv nn, .unset, .unset] [(.int nn), (.ref b2)]) s1 EF := fun t k => pre105 t (by
   refine XS.aload X105.here hx rfl (B at_254) rfl rfl ?_
   exact XS.iload X105.here hx rfl (B at_256) rfl k)
  obtain ⟨_, _, ⟨T120, L120, k120, n120⟩, -, XQ120, hSQ120, hgQ120, ⟨Lc120, hQ120, l120, y120, z120, hCH120⟩, st120⟩ := callSS X105 hx (y := mN16) hown0 (mvT hZ0 (hw _ (mW 1 rfl))) (mvT hZ0 (hw _ (mW 2 rfl))) (mvT hZ0 (hw _ (mW 3 rfl))) (mvT hZ0 (hw _ (mW 4 rfl))) (by decide) (backOfSH (W := 0) (rmPL l Z a0 hw [] b2 nn cz fv kJ cJ hJ n0 ZJ OJ J0 VJ hlJ hrJ) hZ0 (hw _ (mW 4 rfl)) (hw _ (mW 3 rfl)) (by decide) (by decide) (own_EW hw) CJ) (g := (mkF m 258 #[iv p1, iv p2, iv p3, iv p4, iv p5, rv b2, iv bse, iv (((p1.toUInt32 >>> ((2 : Int32) &&& 31).toUInt32).toInt32) &&& (3 : Int32)), iv nn, .unset, .unset] [(.int nn), (.ref b2)])) rfl (hM rfl) (argsL := [(.ref b2), (.int nn)]) (rest := []) (lenOf pd13 rfl) rfl (Nat.le_of_eq rfl) (B at_258) (fun _ _ => ⟨rfl, e105, wl rfl, wl rfl⟩)
  dsimp only [Pt.U, Pt.locs, Pt.cells, Pt.slots] at XQ120 hSQ120 hgQ120 hCH120 l120 y120 z120 st120 hQ120
  subst l120 y120 z120
  obtain ⟨X120, hS120, hZ120, hown120⟩ := rebS hS0 (by rw [e105]; exact hkJ) XQ120 hSQ120 hgQ120 hZ0 hown0
  obtain ⟨sA, sB, sK, sN, sL, rfl, N120q, K120, hsz120, SF120, gs⟩ := hQ120
  have N120 := Fr.app N105 N120q
  have pre121 : Go p e bl T120 (mkF m 261 #[iv p1, iv p2, iv p3, iv p4, iv p5, rv b2, iv bse, iv (((p1.toUInt32 >>> ((2 : Int32) &&& 31).toUInt32).toInt32) &&& (3 : Int32)), iv nn, .unset, .unset] [(.ref sA)]) s1 EF := fun t k => pre119 t (st120.trans k)
  have hk120 := Nat.le_refl T120.heap.size
  have R120 := RJ.trans hCH120
  have O122 : Old Z n0 T120.heap := OJ.keep K120 all0
  have Z122 : n0 ≤ T120.heap.size := Nat.le_trans ZJ K120.1
  have pre123 : Go p e bl T120 (mkF m 265 #[iv p1, iv p2, iv p3, iv p4, iv p5, rv b2, iv bse, iv (((p1.toUInt32 >>> ((2 : Int32) &&& 31).toUInt32).toInt32) &&& (3 : Int32)), iv nn, rv sA, .unset] [(.ref sA)]) s1 EF := fun t k => pre121 t (by
   refine XS.astore X120.here hx rfl (B at_261) rfl rfl (l' := #[iv p1, iv p2, iv p3, iv p4, iv p5, rv b2, iv bse, iv (((p1.toUInt32 >>> ((2 : Int32) &&& 31).toUInt32).toInt32) &&& (3 : Int32)), iv nn, rv sA, .unset]) rfl ?_
   exact XS.aload X120.here hx rfl (B at_263) rfl rfl k)
  obtain ⟨_, _, ⟨T124, L124, k124, n124⟩, -, XQ124, hSQ124, hgQ124, ⟨Lc124, hQ124, l124, y124, z124, hCH124⟩, st124⟩ := callSS X120 hx (y := mN15) hown120 (mvT hZ120 (hw _ (mW 34 rfl))) (mvT hZ120 (hw _ (mW 35 rfl))) (mvT hZ120 (hw _ (mW 36 rfl))) (mvT hZ120 (hw _ (mW 37 rfl))) (by decide) (backOfSH (W := 0) (rmNm l Z a0 hw [] sA cz fv va w0 w1 eo z0 z1 v0 v1 kv k0 k1 sB sK sN sL T120.heap n0 Z122 O122 J0 PP SF120 gs) hZ120 (hw _ (mW 37 rfl)) (hw _ (mW 36 rfl)) (by decide) (by decide) (own_EW hw) hCH120.1) (g := (mkF m 265 #[iv p1, iv p2, iv p3, iv p4, iv p5, rv b2, iv bse, iv (((p1.toUInt32 >>> ((2 : Int32) &&& 31).toUInt32).toInt32) &&& (3 : Int32)), iv nn, rv sA, .unset] [(.ref sA)])) rfl (hM rfl) (argsL := [(.ref sA)]) (rest := []) (lenOf pd14 rfl) rfl (Nat.le_of_eq rfl) (B at_265) (fun _ _ => ⟨rfl, rfl, wl rfl, wl rfl⟩)
  dsimp only [Pt.U, Pt.locs, Pt.cells, Pt.slots] at XQ124 hSQ124 hgQ124 hCH124 l124 y124 z124 st124 hQ124
  subst l124 y124 z124
  obtain ⟨X124, hS124, hZ124, hown124⟩ := rebS hS120 hk120 XQ124 hSQ124 hgQ124 hZ120 hown120
  rcases hQ124 with ⟨hA124, ob, rfl, N124q, K124, EO124, FO124⟩ | ⟨hA124, hB124, ob, rfl, N124q, K124, EO124, FO124⟩ | ⟨hA124, hB124, rfl, N124q, K124⟩
  · have N124 := Fr.app N120 N124q
    have pre125 : Go p e bl T124 (mkF m 268 #[iv p1, iv p2, iv p3, iv p4, iv p5, rv b2, iv bse, iv (((p1.toUInt32 >>> ((2 : Int32) &&& 31).toUInt32).toInt32) &&& (3 : Int32)), iv nn, rv sA, .unset] [(.ref ob)]) s1 EF := fun t k => pre123 t (st124.trans k)
    have hk124 := Nat.le_refl T124.heap.size
    have R124 := R120.trans hCH124
    have O126 : Old Z n0 T124.heap := O122.keep K124 all0
    have Z126 : n0 ≤ T124.heap.size := Nat.le_trans Z122 K124.1
    have pre127 : Go p e bl T124 (mkF m 272 #[iv p1, iv p2, iv p3, iv p4, iv p5, rv b2, iv bse, iv (((p1.toUInt32 >>> ((2 : Int32) &&& 31).toUInt32).toInt32) &&& (3 : Int32)), iv nn, rv sA, rv ob] [(.ref sA)]) s1 EF := fun t k => pre125 t (by
     refine XS.astore X124.here hx rfl (B at_268) rfl rfl (l' := #[iv p1, iv p2, iv p3, iv p4, iv p5, rv b2, iv bse, iv (((p1.toUInt32 >>> ((2 : Int32) &&& 31).toUInt32).toInt32) &&& (3 : Int32)), iv nn, rv sA, rv ob]) rfl ?_
     exact XS.aload X124.here hx rfl (B at_270) rfl rfl k)
    obtain ⟨a128, T128, h128, k128, b128, kc128, X128, e128, Et128, hS128, hk128, hZ128, hown128, LE128, LC128, LF128, LV128, lt128, ltb128, A128, Lt128, sfe128, st128⟩ := ldcCH X124 hx hZ124 hown124 (hw _ (mW 88 rfl)) (own_wS hw) rfl hS124 hk124 (own_EW hw) (mg 1 rfl) hCH124.1 (vs := [.int (111 : Int32), .int (98 : Int32), .int (108 : Int32), .int (105 : Int32), .int (118 : Int32), .int (105 : Int32), .int (111 : Int32), .int (117 : Int32), .int (115 : Int32)]) (z := (9 : Int32)) (by decide +kernel) (by decide) (by decide) (g := (mkF m 272 #[iv p1, iv p2, iv p3, iv p4, iv p5, rv b2, iv bse, iv (((p1.toUInt32 >>> ((2 : Int32) &&& 31).toUInt32).toInt32) &&& (3 : Int32)), iv nn, rv sA, rv ob] [(.ref sA)])) rfl (B at_272) (n := 36) (by decide) (by decide) (by decide) (by decide)
    have pre129 : Go p e bl T128 (mkF m 274 #[iv p1, iv p2, iv p3, iv p4, iv p5, rv b2, iv bse, iv (((p1.toUInt32 >>> ((2 : Int32) &&& 31).toUInt32).toInt32) &&& (3 : Int32)), iv nn, rv sA, rv ob] [(.ref a128), (.ref sA)]) s1 EF := fun t k => pre127 t (st128 t k)
    have O130 : Old Z n0 h128 := O126.ext Et128
    have Z130 : n0 ≤ h128.size := Nat.le_trans Z126 Et128.1
    have R128 := R124.trans A128
    obtain ⟨cq131, kq131, q131a, q131b, q131c⟩ := isOf hZ128 e128 ((SF120.1.keep K124).ext Et128)
    obtain ⟨_, _, ⟨T131, L131, k131, n131⟩, -, X131, ⟨Lc131, hQ131, l131, y131, z131⟩, st131⟩ := X128.virtualBack hx (y := mN1) (z := mN1) hown128 (mvT hZ128 (hw _ (mW 89 rfl))) (mvT hZ128 (hw _ (mW 63 rfl))) (notFace_of_selects (args := #[]) (mvT hZ128 (hw _ (mW 65 rfl)))) (mvT hZ128 (hw _ (mW 65 rfl))) (mvT hZ128 (hw _ (mW 64 rfl))) (by decide) (backOf (W := 0) (rmQ l Z a0 hw [] sA a128 cz fv sB sK sN sL 0 0 b128 kc128 9 C9 0 0 (1 : Int32) h128 n0 Z130 O130 J0 ((SF120.keep K124 nin0 nin0).ext Et128) ⟨LE128, LC128, LF128, LV128, trivial, (Exa.neArv LE128 LV128 (hw _ (mW 6 rfl)))⟩ gs rfl (fun e => e ▸ Or.inr rfl) ((own_sym _ _).trans hA124)) hZ128 (hw _ (mW 66 rfl)) (hw _ (mW 7 rfl)) (by decide) (by decide)) q131a q131c (g := (mkF m 274 #[iv p1, iv p2, iv p3, iv p4, iv p5, rv b2, iv bse, iv (((p1.toUInt32 >>> ((2 : Int32) &&& 31).toUInt32).toInt32) &&& (3 : Int32)), iv nn, rv sA, rv ob] [(.ref a128), (.ref sA)])) rfl (hM rfl) (Steps.refl _) (argsL := [(.ref a128)]) (rest := []) (lenOf pd9 rfl) rfl (Nat.le_of_eq rfl) (B at_274) (fun _ _ => ⟨rfl, e128, wl rfl, wl rfl⟩)
    dsimp only [Pt.U, Pt.locs, Pt.cells, Pt.slots] at X131 l131 y131 z131 st131 hQ131
    subst l131 y131 z131
    obtain ⟨rfl, N131q, hq131⟩ := hQ131
    have N131 := Fr.app N124 N131q
    have pre132 : Go p e bl T131 (mkF m 277 #[iv p1, iv p2, iv p3, iv p4, iv p5, rv b2, iv bse, iv (((p1.toUInt32 >>> ((2 : Int32) &&& 31).toUInt32).toInt32) &&& (3 : Int32)), iv nn, rv sA, rv ob] [(.int 1)]) s1 EF := fun t k => pre129 t (st131.trans k)
    have e131 : T131.heap = h128 := hq131
    have pre133 : Go p e bl T131 (mkF m 280 #[iv p1, iv p2, iv p3, iv p4, iv p5, rv b2, iv bse, iv (((p1.toUInt32 >>> ((2 : Int32) &&& 31).toUInt32).toInt32) &&& (3 : Int32)), iv nn, rv sA, rv ob] []) s1 EF := fun t k => pre132 t (XS.ifNo X131.here hx rfl (B at_277) rfl ((if0 _ _).trans (feq (by decide : ¬ ((1 : Int32) = (0 : Int32)))).1) k)
    have pre134 : Go p e bl T131 (mkF m 282 #[iv p1, iv p2, iv p3, iv p4, iv p5, rv b2, iv bse, iv (((p1.toUInt32 >>> ((2 : Int32) &&& 31).toUInt32).toInt32) &&& (3 : Int32)), iv nn, rv sA, rv ob] [(.ref ob)]) s1 EF := fun t k => pre133 t (by
     exact XS.aload X131.here hx rfl (B at_280) rfl rfl k)
    obtain ⟨cq135, kq135, q135a, q135b, q135c⟩ := isOf hZ128 e131 (EO124.ext Et128)
    obtain ⟨_, _, ⟨T135, L135, k135, n135⟩, -, X135, ⟨Lc135, hQ135, l135, y135, z135⟩, st135⟩ := X131.virtualBack hx (y := mN11) (z := mN11) hown128 (mvT hZ128 (hw _ (mW 90 rfl))) (mvT hZ128 (hw _ (mW 91 rfl))) (notFace_of_selects (args := #[]) (mvT hZ128 (hw _ (mW 93 rfl)))) (mvT hZ128 (hw _ (mW 93 rfl))) (mvT hZ128 (hw _ (mW 92 rfl))) (by decide) (backOf (W := 0) (rmIp l Z a0 hw [] ob w0 h128 n0 Z130 (FO124.ext Et128)) hZ128 (hw _ (mW 94 rfl)) (hw _ (mW 74 rfl)) (by decide) (by decide)) q135a q135c (g := (mkF m 282 #[iv p1, iv p2, iv p3, iv p4, iv p5, rv b2, iv bse, iv (((p1.toUInt32 >>> ((2 : Int32) &&& 31).toUInt32).toInt32) &&& (3 : Int32)), iv nn, rv sA, rv ob] [(.ref ob)])) rfl (hM rfl) (Steps.refl _) (argsL := []) (rest := []) (lenOf pd15 rfl) rfl (Nat.le_of_eq rfl) (B at_282) (fun _ _ => ⟨rfl, e131, wl rfl, wl rfl⟩)
    dsimp only [Pt.U, Pt.locs, Pt.cells, Pt.slots] at X135 l135 y135 z135 st135 hQ135
    subst l135 y135 z135
    obtain ⟨rfl, N135q, hq135⟩ := hQ135
    have N135 := Fr.app N131 N135q
    have pre136 : Go p e bl T135 (mkF m 285 #[iv p1, iv p2, iv p3, iv p4, iv p5, rv b2, iv bse, iv (((p1.toUInt32 >>> ((2 : Int32) &&& 31).toUInt32).toInt32) &&& (3 : Int32)), iv nn, rv sA, rv ob] [(.int 1)]) s1 EF := fun t k => pre134 t (st135.trans k)
    have e135 : T135.heap = h128 := hq135
    have pre137 : Go p e bl T135 (mkF m 288 #[iv p1, iv p2, iv p3, iv p4, iv p5, rv b2, iv bse, iv (((p1.toUInt32 >>> ((2 : Int32) &&& 31).toUInt32).toInt32) &&& (3 : Int32)), iv nn, rv sA, rv ob] []) s1 EF := fun t k => pre136 t (XS.ifNo X135.here hx rfl (B at_285) rfl ((if0 _ _).trans (feq (by decide : ¬ ((1 : Int32) = (0 : Int32)))).1) k)
    have pre138 : Go p e bl T135 (mkF m 290 #[iv p1, iv p2, iv p3, iv p4, iv p5, rv b2, iv bse, iv (((p1.toUInt32 >>> ((2 : Int32) &&& 31).toUInt32).toInt32) &&& (3 : Int32)), iv nn, rv sA, rv ob] [(.ref ob)]) s1 EF := fun t k => pre137 t (by
     exact XS.aload X135.here hx rfl (B at_288) rfl rfl k)
    obtain ⟨cq139, kq139, q139a, q139b, q139c⟩ := isOf hZ128 e135 (EO124.ext Et128)
    obtain ⟨_, _, ⟨T139, L139, k139, n139⟩, -, X139, ⟨Lc139, hQ139, l139, y139, z139⟩, st139⟩ := X135.virtualBack hx (y := mN12) (z := mN12) hown128 (mvT hZ128 (hw _ (mW 95 rfl))) (mvT hZ128 (hw _ (mW 96 rfl))) (notFace_of_selects (args := #[]) (mvT hZ128 (hw _ (mW 98 rfl)))) (mvT hZ128 (hw _ (mW 98 rfl))) (mvT hZ128 (hw _ (mW 97 rfl))) (by decide) (backOf (W := 0) (rmGt l Z a0 hw [] ob w0 h128 n0 Z130 (FO124.ext Et128)) hZ128 (hw _ (mW 99 rfl)) (hw _ (mW 74 rfl)) (by decide) (by decide)) q139a q139c (g := (mkF m 290 #[iv p1, iv p2, iv p3, iv p4, iv p5, rv b2, iv bse, iv (((p1.toUInt32 >>> ((2 : Int32) &&& 31).toUInt32).toInt32) &&& (3 : Int32)), iv nn, rv sA, rv ob] [(.ref ob)])) rfl (hM rfl) (Steps.refl _) (argsL := []) (rest := []) (lenOf pd16 rfl) rfl (Nat.le_of_eq rfl) (B at_290) (fun _ _ => ⟨rfl, e135, wl rfl, wl rfl⟩)
    dsimp only [Pt.U, Pt.locs, Pt.cells, Pt.slots] at X139 l139 y139 z139 st139 hQ139
    subst l139 y139 z139
    obtain ⟨rfl, N139q, hq139⟩ := hQ139
    have N139 := Fr.app N135 N139q
    have pre140 : Go p e bl T139 (mkF m 293 #[iv p1, iv p2, iv p3, iv p4, iv p5, rv b2, iv bse, iv (((p1.toUInt32 >>> ((2 : Int32) &&& 31).toUInt32).toInt32) &&& (3 : Int32)), iv nn, rv sA, rv ob] [(.ref w0)]) s1 EF := fun t k => pre138 t (st139.trans k)
    have e139 : T139.heap = h128 := hq139
    obtain ⟨T141, X141, e141, st141⟩ := getS2 X139 hx hZ128 hown128 (host := "") (Or.inl (hw _ (mW 100 rfl))) Via.refl e139 (PP.2.2.2.1.ext O130.2) (g := (mkF m 293 #[iv p1, iv p2, iv p3, iv p4, iv p5, rv b2, iv bse, iv (((p1.toUInt32 >>> ((2 : Int32) &&& 31).toUInt32).toInt32) &&& (3 : Int32)), iv nn, rv sA, rv ob] [(.ref w0)])) rfl (B at_293)
    have pre142 : Go p e bl T141 (mkF m 296 #[iv p1, iv p2, iv p3, iv p4, iv p5, rv b2, iv bse, iv (((p1.toUInt32 >>> ((2 : Int32) &&& 31).toUInt32).toInt32) &&& (3 : Int32)), iv nn, rv sA, rv ob] [(.ref w0), (.ref w0)]) s1 EF := fun t k => pre140 t (st141 t k)
    have pre143 : Go p e bl T141 (mkF m 299 #[iv p1, iv p2, iv p3, iv p4, iv p5, rv b2, iv bse, iv (((p1.toUInt32 >>> ((2 : Int32) &&& 31).toUInt32).toInt32) &&& (3 : Int32)), iv nn, rv sA, rv ob] []) s1 EF := fun t k => pre142 t (Jvm.RoadKit.acmp (g := (mkF m 296 #[iv p1, iv p2, iv p3, iv p4, iv p5, rv b2, iv bse, iv (((p1.toUInt32 >>> ((2 : Int32) &&& 31).toUInt32).toInt32) &&& (3 : Int32)), iv nn, rv sA, rv ob] [(.ref w0), (.ref w0)])) X141 hx rfl rfl rfl (pc0 := 296) (pc' := 299) (same := true) rfl (B at_296) rfl (decide_eq_true rfl) (by decide) (by decide) k)
    have pre144 : Go p e bl T141 (mkF m 304 #[iv p1, iv p2, iv p3, iv p4, iv p5, rv b2, iv bse, iv (((p1.toUInt32 >>> ((2 : Int32) &&& 31).toUInt32).toInt32) &&& (3 : Int32)), iv nn, rv sA, rv ob] [(.int 1)]) s1 EF := fun t k => pre143 t (by
     refine XS.iconst X141.here hx rfl (B at_299) ?_
     exact XS.goto X141.here hx rfl (pc0 := 300) (pc' := 304) rfl (B at_300) (by decide) (by decide) k)
    have hnr : Value.int (nar .boolean (1 : Int32)) = (.int 1) := by rfl
    obtain ⟨fs, hr, hrun, hended, hend1, hend2, hend3, hsame⟩ := X141.leaveW hS128 (by rw [e141]; exact hk128) (v := some (.int 1)) (fun h => by rw [Bd.returns] at h; cases h)
    have hCH : CHr Z [("com/example/picketline/picketline/protocol/Protocol", 37), ("com/example/picketline/picketline/protocol/ProtocolNamedPinLaw", 20), ("com/example/picketline/picketline/protocol/ProtocolNamedPinLaw", 42), ("java/lang/String", 7)] s.vm s.heap T141.vm T141.heap := by rw [hh, e141]; exact R128.trans (CHv.at X141 hZ128 (own_EW hw) A128.1)
    refine ⟨_, _, hEF ▸ pre144 _ (retN X141 hx (t := .boolean) Bd.returns (by simp) (B at_304) (hnr ▸ hr)), hrun, hended, _, _, rfl, ?_, hCH, hend1, hend2, hend3, hsame.mono (by decide) (by decide)⟩
    show QL Z p1 p2 p3 p4 p5 cz fv va w0 w1 eo z0 z1 v0 v1 kv k0 k1 h0 n0 _ T141.heap _
    rw [e141]
    exact ⟨rfl, N139⟩
  · have N124 := Fr.app N120 N124q
    have pre145 : Go p e bl T124 (mkF m 268 #[iv p1, iv p2, iv p3, iv p4, iv p5, rv b2, iv bse, iv (((p1.toUInt32 >>> ((2 : Int32) &&& 31).toUInt32).toInt32) &&& (3 : Int32)), iv nn, rv sA, .unset] [(.ref ob)]) s1 EF := fun t k => pre123 t (st124.trans k)
    have hk124 := Nat.le_refl T124.heap.size
    have R124 := R120.trans hCH124
    have O146 : Old Z n0 T124.heap := O122.keep K124 all0
    have Z146 : n0 ≤ T124.heap.size := Nat.le_trans Z122 K124.1
    have pre147 : Go p e bl T124 (mkF m 272 #[iv p1, iv p2, iv p3, iv p4, iv p5, rv b2, iv bse, iv (((p1.toUInt32 >>> ((2 : Int32) &&& 31).toUInt32).toInt32) &&& (3 : Int32)), iv nn, rv sA, rv ob] [(.ref sA)]) s1 EF := fun t k => pre145 t (by
     refine XS.astore X124.here hx rfl (B at_268) rfl rfl (l' := #[iv p1, iv p2, iv p3, iv p4, iv p5, rv b2, iv bse, iv (((p1.toUInt32 >>> ((2 : Int32) &&& 31).toUInt32).toInt32) &&& (3 : Int32)), iv nn, rv sA, rv ob]) rfl ?_
     exact XS.aload X124.here hx rfl (B at_270) rfl rfl k)
    obtain ⟨a148, T148, h148, k148, b148, kc148, X148, e148, Et148, hS148, hk148, hZ148, hown148, LE148, LC148, LF148, LV148, lt148, ltb148, A148, Lt148, sfe148, st148⟩ := ldcCH X124 hx hZ124 hown124 (hw _ (mW 88 rfl)) (own_wS hw) rfl hS124 hk124 (own_EW hw) (mg 1 rfl) hCH124.1 (vs := [.int (111 : Int32), .int (98 : Int32), .int (108 : Int32), .int (105 : Int32), .int (118 : Int32), .int (105 : Int32), .int (111 : Int32), .int (117 : Int32), .int (115 : Int32)]) (z := (9 : Int32)) (by decide +kernel) (by decide) (by decide) (g := (mkF m 272 #[iv p1, iv p2, iv p3, iv p4, iv p5, rv b2, iv bse, iv (((p1.toUInt32 >>> ((2 : Int32) &&& 31).toUInt32).toInt32) &&& (3 : Int32)), iv nn, rv sA, rv ob] [(.ref sA)])) rfl (B at_272) (n := 36) (by decide) (by decide) (by decide) (by decide)
    have pre149 : Go p e bl T148 (mkF m 274 #[iv p1, iv p2, iv p3, iv p4, iv p5, rv b2, iv bse, iv (((p1.toUInt32 >>> ((2 : Int32) &&& 31).toUInt32).toInt32) &&& (3 : Int32)), iv nn, rv sA, rv ob] [(.ref a148), (.ref sA)]) s1 EF := fun t k => pre147 t (st148 t k)
    have O150 : Old Z n0 h148 := O146.ext Et148
    have Z150 : n0 ≤ h148.size := Nat.le_trans Z146 Et148.1
    have R148 := R124.trans A148
    obtain ⟨cq151, kq151, q151a, q151b, q151c⟩ := isOf hZ148 e148 ((SF120.1.keep K124).ext Et148)
    obtain ⟨_, _, ⟨T151, L151, k151, n151⟩, -, X151, ⟨Lc151, hQ151, l151, y151, z151⟩, st151⟩ := X148.virtualBack hx (y := mN1) (z := mN1) hown148 (mvT hZ148 (hw _ (mW 89 rfl))) (mvT hZ148 (hw _ (mW 63 rfl))) (notFace_of_selects (args := #[]) (mvT hZ148 (hw _ (mW 65 rfl)))) (mvT hZ148 (hw _ (mW 65 rfl))) (mvT hZ148 (hw _ (mW 64 rfl))) (by decide) (backOf (W := 0) (rmQ l Z a0 hw [] sA a148 cz fv sB sK sN sL 0 0 b148 kc148 9 C9 0 0 (0 : Int32) h148 n0 Z150 O150 J0 ((SF120.keep K124 nin0 nin0).ext Et148) ⟨LE148, LC148, LF148, LV148, trivial, (Exa.neArv LE148 LV148 (hw _ (mW 6 rfl)))⟩ gs rfl (fun e => e ▸ Or.inr rfl) ((own_sym _ _).trans hA124)) hZ148 (hw _ (mW 66 rfl)) (hw _ (mW 7 rfl)) (by decide) (by decide)) q151a q151c (g := (mkF m 274 #[iv p1, iv p2, iv p3, iv p4, iv p5, rv b2, iv bse, iv (((p1.toUInt32 >>> ((2 : Int32) &&& 31).toUInt32).toInt32) &&& (3 : Int32)), iv nn, rv sA, rv ob] [(.ref a148), (.ref sA)])) rfl (hM rfl) (Steps.refl _) (argsL := [(.ref a148)]) (rest := []) (lenOf pd9 rfl) rfl (Nat.le_of_eq rfl) (B at_274) (fun _ _ => ⟨rfl, e148, wl rfl, wl rfl⟩)
    dsimp only [Pt.U, Pt.locs, Pt.cells, Pt.slots] at X151 l151 y151 z151 st151 hQ151
    subst l151 y151 z151
    obtain ⟨rfl, N151q, hq151⟩ := hQ151
    have N151 := Fr.app N124 N151q
    have pre152 : Go p e bl T151 (mkF m 277 #[iv p1, iv p2, iv p3, iv p4, iv p5, rv b2, iv bse, iv (((p1.toUInt32 >>> ((2 : Int32) &&& 31).toUInt32).toInt32) &&& (3 : Int32)), iv nn, rv sA, rv ob] [(.int 0)]) s1 EF := fun t k => pre149 t (st151.trans k)
    have e151 : T151.heap = h148 := hq151
    have pre153 : Go p e bl T151 (mkF m 305 #[iv p1, iv p2, iv p3, iv p4, iv p5, rv b2, iv bse, iv (((p1.toUInt32 >>> ((2 : Int32) &&& 31).toUInt32).toInt32) &&& (3 : Int32)), iv nn, rv sA, rv ob] []) s1 EF := fun t k => pre152 t (XS.ifYes X151.here hx rfl (pc0 := 277) (pc' := 305) rfl (B at_277) rfl ((if0 _ _).trans (teq (by decide : (0 : Int32) = (0 : Int32))).1) (by decide) (by decide) k)
    have pre154 : Go p e bl T151 (mkF m 307 #[iv p1, iv p2, iv p3, iv p4, iv p5, rv b2, iv bse, iv (((p1.toUInt32 >>> ((2 : Int32) &&& 31).toUInt32).toInt32) &&& (3 : Int32)), iv nn, rv sA, rv ob] [(.ref sA)]) s1 EF := fun t k => pre153 t (by
     exact XS.aload X151.here hx rfl (B at_305) rfl rfl k)
    obtain ⟨a155, T155, h155, k155, b155, kc155, X155, e155, Et155, hS155, hk155, hZ155, hown155, LE155, LC155, LF155, LV155, lt155, ltb155, A155, Lt155, sfe155, st155⟩ := ldcCH X151 hx hZ148 hown148 (hw _ (mW 108 rfl)) (own_wS hw) e151 hS148 hk148 (own_EW hw) (mg 2 rfl) A148.1 (vs := [.int (116 : Int32), .int (119 : Int32), .int (111 : Int32), .int (45 : Int32), .int (98 : Int32), .int (105 : Int32), .int (116 : Int32)]) (z := (7 : Int32)) (by decide +kernel) (by decide) (by decide) (g := (mkF m 307 #[iv p1, iv p2, iv p3, iv p4, iv p5, rv b2, iv bse, iv (((p1.toUInt32 >>> ((2 : Int32) &&& 31).toUInt32).toInt32) &&& (3 : Int32)), iv nn, rv sA, rv ob] [(.ref sA)])) rfl (B at_307) (n := 28) (by decide) (by decide) (by decide) (by decide)
    have pre156 : Go p e bl T155 (mkF m 309 #[iv p1, iv p2, iv p3, iv p4, iv p5, rv b2, iv bse, iv (((p1.toUInt32 >>> ((2 : Int32) &&& 31).toUInt32).toInt32) &&& (3 : Int32)), iv nn, rv sA, rv ob] [(.ref a155), (.ref sA)]) s1 EF := fun t k => pre154 t (st155 t k)
    have O157 : Old Z n0 h155 := O150.ext Et155
    have Z157 : n0 ≤ h155.size := Nat.le_trans Z150 Et155.1
    have R155 := R148.trans A155
    obtain ⟨cq158, kq158, q158a, q158b, q158c⟩ := isOf hZ155 e155 (((SF120.1.keep K124).ext Et148).ext Et155)
    obtain ⟨_, _, ⟨T158, L158, k158, n158⟩, -, X158, ⟨Lc158, hQ158, l158, y158, z158⟩, st158⟩ := X155.virtualBack hx (y := mN1) (z := mN1) hown155 (mvT hZ155 (hw _ (mW 89 rfl))) (mvT hZ155 (hw _ (mW 63 rfl))) (notFace_of_selects (args := #[]) (mvT hZ155 (hw _ (mW 65 rfl)))) (mvT hZ155 (hw _ (mW 65 rfl))) (mvT hZ155 (hw _ (mW 64 rfl))) (by decide) (backOf (W := 0) (rmQ l Z a0 hw [] sA a155 cz fv sB sK sN sL 0 0 b155 kc155 7 C7 0 0 (1 : Int32) h155 n0 Z157 O157 J0 (((SF120.keep K124 nin0 nin0).ext Et148).ext Et155) ⟨LE155, LC155, LF155, LV155, trivial, (Exa.neArv LE155 LV155 (hw _ (mW 6 rfl)))⟩ gs rfl (fun e => e ▸ Or.inl rfl) ((own_sym _ _).trans hB124)) hZ155 (hw _ (mW 66 rfl)) (hw _ (mW 7 rfl)) (by decide) (by decide)) q158a q158c (g := (mkF m 309 #[iv p1, iv p2, iv p3, iv p4, iv p5, rv b2, iv bse, iv (((p1.toUInt32 >>> ((2 : Int32) &&& 31).toUInt32).toInt32) &&& (3 : Int32)), iv nn, rv sA, rv ob] [(.ref a155), (.ref sA)])) rfl (hM rfl) (Steps.refl _) (argsL := [(.ref a155)]) (rest := []) (lenOf pd9 rfl) rfl (Nat.le_of_eq rfl) (B at_309) (fun _ _ => ⟨rfl, e155, wl rfl, wl rfl⟩)
    dsimp only [Pt.U, Pt.locs, Pt.cells, Pt.slots] at X158 l158 y158 z158 st158 hQ158
    subst l158 y158 z158
    obtain ⟨rfl, N158q, hq158⟩ := hQ158
    have N158 := Fr.app N151 N158q
    have pre159 : Go p e bl T158 (mkF m 312 #[iv p1, iv p2, iv p3, iv p4, iv p5, rv b2, iv bse, iv (((p1.toUInt32 >>> ((2 : Int32) &&& 31).toUInt32).toInt32) &&& (3 : Int32)), iv nn, rv sA, rv ob] [(.int 1)]) s1 EF := fun t k => pre156 t (st158.trans k)
    have e158 : T158.heap = h155 := hq158
    have pre160 : Go p e bl T158 (mkF m 315 #[iv p1, iv p2, iv p3, iv p4, iv p5, rv b2, iv bse, iv (((p1.toUInt32 >>> ((2 : Int32) &&& 31).toUInt32).toInt32) &&& (3 : Int32)), iv nn, rv sA, rv ob] []) s1 EF := fun t k => pre159 t (XS.ifNo X158.here hx rfl (B at_312) rfl ((if0 _ _).trans (feq (by decide : ¬ ((1 : Int32) = (0 : Int32)))).1) k)
    have pre161 : Go p e bl T158 (mkF m 317 #[iv p1, iv p2, iv p3, iv p4, iv p5, rv b2, iv bse, iv (((p1.toUInt32 >>> ((2 : Int32) &&& 31).toUInt32).toInt32) &&& (3 : Int32)), iv nn, rv sA, rv ob] [(.ref ob)]) s1 EF := fun t k => pre160 t (by
     exact XS.aload X158.here hx rfl (B at_315) rfl rfl k)
    obtain ⟨cq162, kq162, q162a, q162b, q162c⟩ := isOf hZ155 e158 ((EO124.ext Et148).ext Et155)
    obtain ⟨_, _, ⟨T162, L162, k162, n162⟩, -, X162, ⟨Lc162, hQ162, l162, y162, z162⟩, st162⟩ := X158.virtualBack hx (y := mN11) (z := mN11) hown155 (mvT hZ155 (hw _ (mW 90 rfl))) (mvT hZ155 (hw _ (mW 91 rfl))) (notFace_of_selects (args := #[]) (mvT hZ155 (hw _ (mW 93 rfl)))) (mvT hZ155 (hw _ (mW 93 rfl))) (mvT hZ155 (hw _ (mW 92 rfl))) (by decide) (backOf (W := 0) (rmIp l Z a0 hw [] ob w1 h155 n0 Z157 ((FO124.ext Et148).ext Et155)) hZ155 (hw _ (mW 94 rfl)) (hw _ (mW 74 rfl)) (by decide) (by decide)) q162a q162c (g := (mkF m 317 #[iv p1, iv p2, iv p3, iv p4, iv p5, rv b2, iv bse, iv (((p1.toUInt32 >>> ((2 : Int32) &&& 31).toUInt32).toInt32) &&& (3 : Int32)), iv nn, rv sA, rv ob] [(.ref ob)])) rfl (hM rfl) (Steps.refl _) (argsL := []) (rest := []) (lenOf pd15 rfl) rfl (Nat.le_of_eq rfl) (B at_317) (fun _ _ => ⟨rfl, e158, wl rfl, wl rfl⟩)
    dsimp only [Pt.U, Pt.locs, Pt.cells, Pt.slots] at X162 l162 y162 z162 st162 hQ162
    subst l162 y162 z162
    obtain ⟨rfl, N162q, hq162⟩ := hQ162
    have N162 := Fr.app N158 N162q
    have pre163 : Go p e bl T162 (mkF m 320 #[iv p1, iv p2, iv p3, iv p4, iv p5, rv b2, iv bse, iv (((p1.toUInt32 >>> ((2 : Int32) &&& 31).toUInt32).toInt32) &&& (3 : Int32)), iv nn, rv sA, rv ob] [(.int 1)]) s1 EF := fun t k => pre161 t (st162.trans k)
    have e162 : T162.heap = h155 := hq162
    have pre164 : Go p e bl T162 (mkF m 323 #[iv p1, iv p2, iv p3, iv p4, iv p5, rv b2, iv bse, iv (((p1.toUInt32 >>> ((2 : Int32) &&& 31).toUInt32).toInt32) &&& (3 : Int32)), iv nn, rv sA, rv ob] []) s1 EF := fun t k => pre163 t (XS.ifNo X162.here hx rfl (B at_320) rfl ((if0 _ _).trans (feq (by decide : ¬ ((1 : Int32) = (0 : Int32)))).1) k)
    have pre165 : Go p e bl T162 (mkF m 325 #[iv p1, iv p2, iv p3, iv p4, iv p5, rv b2, iv bse, iv (((p1.toUInt32 >>> ((2 : Int32) &&& 31).toUInt32).toInt32) &&& (3 : Int32)), iv nn, rv sA, rv ob] [(.ref ob)]) s1 EF := fun t k => pre164 t (by
     exact XS.aload X162.here hx rfl (B at_323) rfl rfl k)
    obtain ⟨cq166, kq166, q166a, q166b, q166c⟩ := isOf hZ155 e162 ((EO124.ext Et148).ext Et155)
    obtain ⟨_, _, ⟨T166, L166, k166, n166⟩, -, X166, ⟨Lc166, hQ166, l166, y166, z166⟩, st166⟩ := X162.virtualBack hx (y := mN12) (z := mN12) hown155 (mvT hZ155 (hw _ (mW 95 rfl))) (mvT hZ155 (hw _ (mW 96 rfl))) (notFace_of_selects (args := #[]) (mvT hZ155 (hw _ (mW 98 rfl)))) (mvT hZ155 (hw _ (mW 98 rfl))) (mvT hZ155 (hw _ (mW 97 rfl))) (by decide) (backOf (W := 0) (rmGt l Z a0 hw [] ob w1 h155 n0 Z157 ((FO124.ext Et148).ext Et155)) hZ155 (hw _ (mW 99 rfl)) (hw _ (mW 74 rfl)) (by decide) (by decide)) q166a q166c (g := (mkF m 325 #[iv p1, iv p2, iv p3, iv p4, iv p5, rv b2, iv bse, iv (((p1.toUInt32 >>> ((2 : Int32) &&& 31).toUInt32).toInt32) &&& (3 : Int32)), iv nn, rv sA, rv ob] [(.ref ob)])) rfl (hM rfl) (Steps.refl _) (argsL := []) (rest := []) (lenOf pd16 rfl) rfl (Nat.le_of_eq rfl) (B at_325) (fun _ _ => ⟨rfl, e162, wl rfl, wl rfl⟩)
    dsimp only [Pt.U, Pt.locs, Pt.cells, Pt.slots] at X166 l166 y166 z166 st166 hQ166
    subst l166 y166 z166
    obtain ⟨rfl, N166q, hq166⟩ := hQ166
    have N166 := Fr.app N162 N166q
    have pre167 : Go p e bl T166 (mkF m 328 #[iv p1, iv p2, iv p3, iv p4, iv p5, rv b2, iv bse, iv (((p1.toUInt32 >>> ((2 : Int32) &&& 31).toUInt32).toInt32) &&& (3 : Int32)), iv nn, rv sA, rv ob] [(.ref w1)]) s1 EF := fun t k => pre165 t (st166.trans k)
    have e166 : T166.heap = h155 := hq166
    obtain ⟨T168, X168, e168, st168⟩ := getS2 X166 hx hZ155 hown155 (host := "") (Or.inl (hw _ (mW 110 rfl))) Via.refl e166 (PP.2.2.2.2.1.ext O157.2) (g := (mkF m 328 #[iv p1, iv p2, iv p3, iv p4, iv p5, rv b2, iv bse, iv (((p1.toUInt32 >>> ((2 : Int32) &&& 31).toUInt32).toInt32) &&& (3 : Int32)), iv nn, rv sA, rv ob] [(.ref w1)])) rfl (B at_328)
    have pre169 : Go p e bl T168 (mkF m 331 #[iv p1, iv p2, iv p3, iv p4, iv p5, rv b2, iv bse, iv (((p1.toUInt32 >>> ((2 : Int32) &&& 31).toUInt32).toInt32) &&& (3 : Int32)), iv nn, rv sA, rv ob] [(.ref w1), (.ref w1)]) s1 EF := fun t k => pre167 t (st168 t k)
    have pre170 : Go p e bl T168 (mkF m 334 #[iv p1, iv p2, iv p3, iv p4, iv p5, rv b2, iv bse, iv (((p1.toUInt32 >>> ((2 : Int32) &&& 31).toUInt32).toInt32) &&& (3 : Int32)), iv nn, rv sA, rv ob] []) s1 EF := fun t k => pre169 t (Jvm.RoadKit.acmp (g := (mkF m 331 #[iv p1, iv p2, iv p3, iv p4, iv p5, rv b2, iv bse, iv (((p1.toUInt32 >>> ((2 : Int32) &&& 31).toUInt32).toInt32) &&& (3 : Int32)), iv nn, rv sA, rv ob] [(.ref w1), (.ref w1)])) X168 hx rfl rfl rfl (pc0 := 331) (pc' := 334) (same := true) rfl (B at_331) rfl (decide_eq_true rfl) (by decide) (by decide) k)
    have pre171 : Go p e bl T168 (mkF m 339 #[iv p1, iv p2, iv p3, iv p4, iv p5, rv b2, iv bse, iv (((p1.toUInt32 >>> ((2 : Int32) &&& 31).toUInt32).toInt32) &&& (3 : Int32)), iv nn, rv sA, rv ob] [(.int 1)]) s1 EF := fun t k => pre170 t (by
     refine XS.iconst X168.here hx rfl (B at_334) ?_
     exact XS.goto X168.here hx rfl (pc0 := 335) (pc' := 339) rfl (B at_335) (by decide) (by decide) k)
    have hnr : Value.int (nar .boolean (1 : Int32)) = (.int 1) := by rfl
    obtain ⟨fs, hr, hrun, hended, hend1, hend2, hend3, hsame⟩ := X168.leaveW hS155 (by rw [e168]; exact hk155) (v := some (.int 1)) (fun h => by rw [Bd.returns] at h; cases h)
    have hCH : CHr Z [("com/example/picketline/picketline/protocol/Protocol", 37), ("com/example/picketline/picketline/protocol/ProtocolNamedPinLaw", 20), ("com/example/picketline/picketline/protocol/ProtocolNamedPinLaw", 42), ("java/lang/String", 7)] s.vm s.heap T168.vm T168.heap := by rw [hh, e168]; exact R155.trans (CHv.at X168 hZ155 (own_EW hw) A155.1)
    refine ⟨_, _, hEF ▸ pre171 _ (retN X168 hx (t := .boolean) Bd.returns (by simp) (B at_339) (hnr ▸ hr)), hrun, hended, _, _, rfl, ?_, hCH, hend1, hend2, hend3, hsame.mono (by decide) (by decide)⟩
    show QL Z p1 p2 p3 p4 p5 cz fv va w0 w1 eo z0 z1 v0 v1 kv k0 k1 h0 n0 _ T168.heap _
    rw [e168]
    exact ⟨rfl, N166⟩
  have N124 := Fr.app N120 N124q
  have pre172 : Go p e bl T124 (mkF m 268 #[iv p1, iv p2, iv p3, iv p4, iv p5, rv b2, iv bse, iv (((p1.toUInt32 >>> ((2 : Int32) &&& 31).toUInt32).toInt32) &&& (3 : Int32)), iv nn, rv sA, .unset] [(.ref eo)]) s1 EF := fun t k => pre123 t (st124.trans k)
  have hk124 := Nat.le_refl T124.heap.size
  have R124 := R120.trans hCH124
  have O173 : Old Z n0 T124.heap := O122.keep K124 all0
  have Z173 : n0 ≤ T124.heap.size := Nat.le_trans Z122 K124.1
  have pre174 : Go p e bl T124 (mkF m 272 #[iv p1, iv p2, iv p3, iv p4, iv p5, rv b2, iv bse, iv (((p1.toUInt32 >>> ((2 : Int32) &&& 31).toUInt32).toInt32) &&& (3 : Int32)), iv nn, rv sA, rv eo] [(.ref sA)]) s1 EF := fun t k => pre172 t (by
   refine XS.astore X124.here hx rfl (B at_268) rfl rfl (l' := #[iv p1, iv p2, iv p3, iv p4, iv p5, rv b2, iv bse, iv (((p1.toUInt32 >>> ((2 : Int32) &&& 31).toUInt32).toInt32) &&& (3 : Int32)), iv nn, rv sA, rv eo]) rfl ?_
   exact XS.aload X124.here hx rfl (B at_270) rfl rfl k)
  obtain ⟨a175, T175, h175, k175, b175, kc175, X175, e175, Et175, hS175, hk175, hZ175, hown175, LE175, LC175, LF175, LV175, lt175, ltb175, A175, Lt175, sfe175, st175⟩ := ldcCH X124 hx hZ124 hown124 (hw _ (mW 88 rfl)) (own_wS hw) rfl hS124 hk124 (own_EW hw) (mg 1 rfl) hCH124.1 (vs := [.int (111 : Int32), .int (98 : Int32), .int (108 : Int32), .int (105 : Int32), .int (118 : Int32), .int (105 : Int32), .int (111 : Int32), .int (117 : Int32), .int (115 : Int32)]) (z := (9 : Int32)) (by decide +kernel) (by decide) (by decide) (g := (mkF m 272 #[iv p1, iv p2, iv p3, iv p4, iv p5, rv b2, iv bse, iv (((p1.toUInt32 >>> ((2 : Int32) &&& 31).toUInt32).toInt32) &&& (3 : Int32)), iv nn, rv sA, rv eo] [(.ref sA)])) rfl (B at_272) (n := 36) (by decide) (by decide) (by decide) (by decide)
  have pre176 : Go p e bl T175 (mkF m 274 #[iv p1, iv p2, iv p3, iv p4, iv p5, rv b2, iv bse, iv (((p1.toUInt32 >>> ((2 : Int32) &&& 31).toUInt32).toInt32) &&& (3 : Int32)), iv nn, rv sA, rv eo] [(.ref a175), (.ref sA)]) s1 EF := fun t k => pre174 t (st175 t k)
  have O177 : Old Z n0 h175 := O173.ext Et175
  have Z177 : n0 ≤ h175.size := Nat.le_trans Z173 Et175.1
  have R175 := R124.trans A175
  obtain ⟨cq178, kq178, q178a, q178b, q178c⟩ := isOf hZ175 e175 ((SF120.1.keep K124).ext Et175)
  obtain ⟨_, _, ⟨T178, L178, k178, n178⟩, -, X178, ⟨Lc178, hQ178, l178, y178, z178⟩, st178⟩ := X175.virtualBack hx (y := mN1) (z := mN1) hown175 (mvT hZ175 (hw _ (mW 89 rfl))) (mvT hZ175 (hw _ (mW 63 rfl))) (notFace_of_selects (args := #[]) (mvT hZ175 (hw _ (mW 65 rfl)))) (mvT hZ175 (hw _ (mW 65 rfl))) (mvT hZ175 (hw _ (mW 64 rfl))) (by decide) (backOf (W := 0) (rmQ l Z a0 hw [] sA a175 cz fv sB sK sN sL 0 0 b175 kc175 9 C9 0 0 (0 : Int32) h175 n0 Z177 O177 J0 ((SF120.keep K124 nin0 nin0).ext Et175) ⟨LE175, LC175, LF175, LV175, trivial, (Exa.neArv LE175 LV175 (hw _ (mW 6 rfl)))⟩ gs rfl (fun e => e ▸ Or.inr rfl) ((own_sym _ _).trans hA124)) hZ175 (hw _ (mW 66 rfl)) (hw _ (mW 7 rfl)) (by decide) (by decide)) q178a q178c (g := (mkF m 274 #[iv p1, iv p2, iv p3, iv p4, iv p5, rv b2, iv bse, iv (((p1.toUInt32 >>> ((2 : Int32) &&& 31).toUInt32).toInt32) &&& (3 : Int32)), iv nn, rv sA, rv eo] [(.ref a175), (.ref sA)])) rfl (hM rfl) (Steps.refl _) (argsL := [(.ref a175)]) (rest := []) (lenOf pd9 rfl) rfl (Nat.le_of_eq rfl) (B at_274) (fun _ _ => ⟨rfl, e175, wl rfl, wl rfl⟩)
  dsimp only [Pt.U, Pt.locs, Pt.cells, Pt.slots] at X178 l178 y178 z178 st178 hQ178
  subst l178 y178 z178
  obtain ⟨rfl, N178q, hq178⟩ := hQ178
  have N178 := Fr.app N124 N178q
  have pre179 : Go p e bl T178 (mkF m 277 #[iv p1, iv p2, iv p3, iv p4, iv p5, rv b2, iv bse, iv (((p1.toUInt32 >>> ((2 : Int32) &&& 31).toUInt32).toInt32) &&& (3 : Int32)), iv nn, rv sA, rv eo] [(.int 0)]) s1 EF := fun t k => pre176 t (st178.trans k)
  have e178 : T178.heap = h175 := hq178
  have pre180 : Go p e bl T178 (mkF m 305 #[iv p1, iv p2, iv p3, iv p4, iv p5, rv b2, iv bse, iv (((p1.toUInt32 >>> ((2 : Int32) &&& 31).toUInt32).toInt32) &&& (3 : Int32)), iv nn, rv sA, rv eo] []) s1 EF := fun t k => pre179 t (XS.ifYes X178.here hx rfl (pc0 := 277) (pc' := 305) rfl (B at_277) rfl ((if0 _ _).trans (teq (by decide : (0 : Int32) = (0 : Int32))).1) (by decide) (by decide) k)
  have pre181 : Go p e bl T178 (mkF m 307 #[iv p1, iv p2, iv p3, iv p4, iv p5, rv b2, iv bse, iv (((p1.toUInt32 >>> ((2 : Int32) &&& 31).toUInt32).toInt32) &&& (3 : Int32)), iv nn, rv sA, rv eo] [(.ref sA)]) s1 EF := fun t k => pre180 t (by
   exact XS.aload X178.here hx rfl (B at_305) rfl rfl k)
  obtain ⟨a182, T182, h182, k182, b182, kc182, X182, e182, Et182, hS182, hk182, hZ182, hown182, LE182, LC182, LF182, LV182, lt182, ltb182, A182, Lt182, sfe182, st182⟩ := ldcCH X178 hx hZ175 hown175 (hw _ (mW 108 rfl)) (own_wS hw) e178 hS175 hk175 (own_EW hw) (mg 2 rfl) A175.1 (vs := [.int (116 : Int32), .int (119 : Int32), .int (111 : Int32), .int (45 : Int32), .int (98 : Int32), .int (105 : Int32), .int (116 : Int32)]) (z := (7 : Int32)) (by decide +kernel) (by decide) (by decide) (g := (mkF m 307 #[iv p1, iv p2, iv p3, iv p4, iv p5, rv b2, iv bse, iv (((p1.toUInt32 >>> ((2 : Int32) &&& 31).toUInt32).toInt32) &&& (3 : Int32)), iv nn, rv sA, rv eo] [(.ref sA)])) rfl (B at_307) (n := 28) (by decide) (by decide) (by decide) (by decide)
  have pre183 : Go p e bl T182 (mkF m 309 #[iv p1, iv p2, iv p3, iv p4, iv p5, rv b2, iv bse, iv (((p1.toUInt32 >>> ((2 : Int32) &&& 31).toUInt32).toInt32) &&& (3 : Int32)), iv nn, rv sA, rv eo] [(.ref a182), (.ref sA)]) s1 EF := fun t k => pre181 t (st182 t k)
  have O184 : Old Z n0 h182 := O177.ext Et182
  have Z184 : n0 ≤ h182.size := Nat.le_trans Z177 Et182.1
  have R182 := R175.trans A182
  obtain ⟨cq185, kq185, q185a, q185b, q185c⟩ := isOf hZ182 e182 (((SF120.1.keep K124).ext Et175).ext Et182)
  obtain ⟨_, _, ⟨T185, L185, k185, n185⟩, -, X185, ⟨Lc185, hQ185, l185, y185, z185⟩, st185⟩ := X182.virtualBack hx (y := mN1) (z := mN1) hown182 (mvT hZ182 (hw _ (mW 89 rfl))) (mvT hZ182 (hw _ (mW 63 rfl))) (notFace_of_selects (args := #[]) (mvT hZ182 (hw _ (mW 65 rfl)))) (mvT hZ182 (hw _ (mW 65 rfl))) (mvT hZ182 (hw _ (mW 64 rfl))) (by decide) (backOf (W := 0) (rmQ l Z a0 hw [] sA a182 cz fv sB sK sN sL 0 0 b182 kc182 7 C7 0 0 (0 : Int32) h182 n0 Z184 O184 J0 (((SF120.keep K124 nin0 nin0).ext Et175).ext Et182) ⟨LE182, LC182, LF182, LV182, trivial, (Exa.neArv LE182 LV182 (hw _ (mW 6 rfl)))⟩ gs rfl (fun e => e ▸ Or.inl rfl) ((own_sym _ _).trans hB124)) hZ182 (hw _ (mW 66 rfl)) (hw _ (mW 7 rfl)) (by decide) (by decide)) q185a q185c (g := (mkF m 309 #[iv p1, iv p2, iv p3, iv p4, iv p5, rv b2, iv bse, iv (((p1.toUInt32 >>> ((2 : Int32) &&& 31).toUInt32).toInt32) &&& (3 : Int32)), iv nn, rv sA, rv eo] [(.ref a182), (.ref sA)])) rfl (hM rfl) (Steps.refl _) (argsL := [(.ref a182)]) (rest := []) (lenOf pd9 rfl) rfl (Nat.le_of_eq rfl) (B at_309) (fun _ _ => ⟨rfl, e182, wl rfl, wl rfl⟩)
  dsimp only [Pt.U, Pt.locs, Pt.cells, Pt.slots] at X185 l185 y185 z185 st185 hQ185
  subst l185 y185 z185
  obtain ⟨rfl, N185q, hq185⟩ := hQ185
  have N185 := Fr.app N178 N185q
  have pre186 : Go p e bl T185 (mkF m 312 #[iv p1, iv p2, iv p3, iv p4, iv p5, rv b2, iv bse, iv (((p1.toUInt32 >>> ((2 : Int32) &&& 31).toUInt32).toInt32) &&& (3 : Int32)), iv nn, rv sA, rv eo] [(.int 0)]) s1 EF := fun t k => pre183 t (st185.trans k)
  have e185 : T185.heap = h182 := hq185
  have pre187 : Go p e bl T185 (mkF m 340 #[iv p1, iv p2, iv p3, iv p4, iv p5, rv b2, iv bse, iv (((p1.toUInt32 >>> ((2 : Int32) &&& 31).toUInt32).toInt32) &&& (3 : Int32)), iv nn, rv sA, rv eo] []) s1 EF := fun t k => pre186 t (XS.ifYes X185.here hx rfl (pc0 := 312) (pc' := 340) rfl (B at_312) rfl ((if0 _ _).trans (teq (by decide : (0 : Int32) = (0 : Int32))).1) (by decide) (by decide) k)
  have pre188 : Go p e bl T185 (mkF m 342 #[iv p1, iv p2, iv p3, iv p4, iv p5, rv b2, iv bse, iv (((p1.toUInt32 >>> ((2 : Int32) &&& 31).toUInt32).toInt32) &&& (3 : Int32)), iv nn, rv sA, rv eo] [(.ref eo)]) s1 EF := fun t k => pre187 t (by
   exact XS.aload X185.here hx rfl (B at_340) rfl rfl k)
  obtain ⟨cq189, kq189, q189a, q189b, q189c⟩ := isOf hZ182 e185 (PP.2.2.2.2.2.2.1.ext O184.2)
  obtain ⟨_, _, ⟨T189, L189, k189, n189⟩, -, X189, ⟨Lc189, hQ189, l189, y189, z189⟩, st189⟩ := X185.virtualBack hx (y := mN11) (z := mN11) hown182 (mvT hZ182 (hw _ (mW 90 rfl))) (mvT hZ182 (hw _ (mW 91 rfl))) (notFace_of_selects (args := #[]) (mvT hZ182 (hw _ (mW 93 rfl)))) (mvT hZ182 (hw _ (mW 93 rfl))) (mvT hZ182 (hw _ (mW 92 rfl))) (by decide) (backOf (W := 0) (rmIe l Z a0 hw [] eo h182 n0 Z184 (PP.2.2.2.2.2.2.2.1.ext O184.2)) hZ182 (hw _ (mW 94 rfl)) (hw _ (mW 74 rfl)) (by decide) (by decide)) q189a q189c (g := (mkF m 342 #[iv p1, iv p2, iv p3, iv p4, iv p5, rv b2, iv bse, iv (((p1.toUInt32 >>> ((2 : Int32) &&& 31).toUInt32).toInt32) &&& (3 : Int32)), iv nn, rv sA, rv eo] [(.ref eo)])) rfl (hM rfl) (Steps.refl _) (argsL := []) (rest := []) (lenOf pd15 rfl) rfl (Nat.le_of_eq rfl) (B at_342) (fun _ _ => ⟨rfl, e185, wl rfl, wl rfl⟩)
  dsimp only [Pt.U, Pt.locs, Pt.cells, Pt.slots] at X189 l189 y189 z189 st189 hQ189
  subst l189 y189 z189
  obtain ⟨rfl, N189q, hq189⟩ := hQ189
  have N189 := Fr.app N185 N189q
  have pre190 : Go p e bl T189 (mkF m 345 #[iv p1, iv p2, iv p3, iv p4, iv p5, rv b2, iv bse, iv (((p1.toUInt32 >>> ((2 : Int32) &&& 31).toUInt32).toInt32) &&& (3 : Int32)), iv nn, rv sA, rv eo] [(.int 0)]) s1 EF := fun t k => pre188 t (st189.trans k)
  have e189 : T189.heap = h182 := hq189
  have pre191 : Go p e bl T189 (mkF m 348 #[iv p1, iv p2, iv p3, iv p4, iv p5, rv b2, iv bse, iv (((p1.toUInt32 >>> ((2 : Int32) &&& 31).toUInt32).toInt32) &&& (3 : Int32)), iv nn, rv sA, rv eo] []) s1 EF := fun t k => pre190 t (XS.ifNo X189.here hx rfl (B at_345) rfl ((if0 _ _).trans (teq (by decide : (0 : Int32) = (0 : Int32))).2) k)
  have pre192 : Go p e bl T189 (mkF m 353 #[iv p1, iv p2, iv p3, iv p4, iv p5, rv b2, iv bse, iv (((p1.toUInt32 >>> ((2 : Int32) &&& 31).toUInt32).toInt32) &&& (3 : Int32)), iv nn, rv sA, rv eo] [(.int 1)]) s1 EF := fun t k => pre191 t (by
   refine XS.iconst X189.here hx rfl (B at_348) ?_
   exact XS.goto X189.here hx rfl (pc0 := 349) (pc' := 353) rfl (B at_349) (by decide) (by decide) k)
  have hnr : Value.int (nar .boolean (1 : Int32)) = (.int 1) := by rfl
  obtain ⟨fs, hr, hrun, hended, hend1, hend2, hend3, hsame⟩ := X189.leaveW hS182 (by rw [e189]; exact hk182) (v := some (.int 1)) (fun h => by rw [Bd.returns] at h; cases h)
  have hCH : CHr Z [("com/example/picketline/picketline/protocol/Protocol", 37), ("com/example/picketline/picketline/protocol/ProtocolNamedPinLaw", 20), ("com/example/picketline/picketline/protocol/ProtocolNamedPinLaw", 42), ("java/lang/String", 7)] s.vm s.heap T189.vm T189.heap := by rw [hh, e189]; exact R182.trans (CHv.at X189 hZ182 (own_EW hw) A182.1)
  refine ⟨_, _, hEF ▸ pre192 _ (retN X189 hx (t := .boolean) Bd.returns (by simp) (B at_353) (hnr ▸ hr)), hrun, hended, _, _, rfl, ?_, hCH, hend1, hend2, hend3, hsame.mono (by decide) (by decide)⟩
  show QL Z p1 p2 p3 p4 p5 cz fv va w0 w1 eo z0 z1 v0 v1 kv k0 k1 h0 n0 _ T189.heap _
  rw [e189]
  exact ⟨rfl, N189⟩
theorem own_alen {args : Array Value} {s : State} {t : Term} {a : Addr} {cl : Cell} {k : Int32} (ev : t.eval args s none [] s = some (.ref a)) (hal : s.arrayAt? a = some cl) (h : (Jvm.Cond.eq (.length t) (.int k)).value args s none s [] = some true) : cl.slots.size < 2 ^ 31 ∧ cl.slots.size.toInt32 = k := by
  by_cases q : cl.slots.size < 2 ^ 31
  · exact ⟨q, gotT (Cond.eq_ints (len_f ev hal q) (Term.int_eval k)) h⟩
  · exfalso; simp [Jvm.Cond.value, Term.eval, ev, hal, q] at h
theorem own_el {args : Array Value} {s : State} {t : Term} {a : Addr} {cl : Cell} {j : Int32} {v : Value} (ev : t.eval args s none [] s = some (.ref a)) (hal : s.arrayAt? a = some cl) (hn : ¬ j < 0) (h : (Term.elem t (.int j)).eval args s none [] s = some v) : cl.slots[j.toNatClampNeg]? = some v := (elem_f ev (Term.int_eval j) hal hn).symm.trans h
theorem own_eqr {args : Array Value} {s : State} {X F : Term} {y : Addr} (hF : F.eval args s none [] s = some (.ref y)) (h : (Jvm.Cond.eq X F).value args s none s [] = some true) : X.eval args s none [] s = some (.ref y) := by
  obtain ⟨x, y', e1, e2, k1, k2⟩ := cmp_v (Or.inl h)
  cases hF.symm.trans e2
  cases x <;> simp [Kin, Value.isRef, Cond.value, e1, hF] at k1 k2 h
  rw [e1, h]
theorem own_nullf {args : Array Value} {s : State} {t : Term} {x : Addr} {C n d : String} (ht : t.eval args s none [] s = some (.ref x)) (h : (Jvm.Cond.eq (.field t C n d) .null).value args s none s [] = some true) : Fld s s.heap x C n d .null := by
  obtain ⟨y, z, h1, h2, h3, h4⟩ := cmp_v (Or.inl h)
  have h2' : z = .null := by simpa [Term.eval] using h2.symm
  subst h2'
  cases y <;> simp [Kin, Value.isRef, Cond.value, h1, h2] at h3 h4 h
  exact Fld.start ((fld_at ht).symm.trans h1)
theorem own_held {s : State} {tb : Tables} {e : Env} {args : Array Value} (h : call_1_1 tb e args s) : ∀ p ∈ [("com/example/picketline/picketline/protocol/Protocol", 37), ("com/example/picketline/picketline/protocol/ProtocolNamedPinLaw", 20), ("com/example/picketline/picketline/protocol/ProtocolNamedPinLaw", 42), ("java/lang/String", 7)], Jvm.Lit.constHeld s p.1 p.2 := h
set_option maxRecDepth 65536 in
set_option maxHeartbeats 40000000 in
theorem comes_1 {Post : Tables → Env → Array Value → State → Outcome → State → Prop} (hpost : ∀ tb e args s v u, (limb_1_1.after args s (.returned v) u = true ∧ limb_1_2.after args s (.returned v) u = true ∧ True) → ReturnedEndW s (.returned v) u (Jvm.fieldLocs frame_1_writes args s ++ Jvm.arrayLocs frame_1_arrays args s ++ Jvm.staticLocs frame_1_statics s) 32 4288 → Post tb e args s (.returned v) u) :
    ArmFor flags0 classFile x code maxLocals ret World_1 tables_1 room_1 Calls_1 rest_1 Pre_1 Post := by
  intro l hfl _ _ p e ha hc hk s m args below hf hA hF happ hP
  obtain ⟨hcalls, hrest, hpre⟩ := hP
  obtain ⟨-, -, -, hnamed, -, -, -, hat⟩ := (Spec.applies_iff hf).mp happ
  obtain ⟨hg, hn⟩ := and_e (Cond.before_iff.mp (show (Jvm.Cond.and given_1 narrow_1).before args s = true from hpre))
  obtain ⟨hg0, hgr0⟩ := and_e hg
  obtain ⟨hg1, hgr1⟩ := and_e hgr0
  obtain ⟨hg2, hgr2⟩ := and_e hgr1
  obtain ⟨hg3, hgr3⟩ := and_e hgr2
  obtain ⟨hg4, hg5⟩ := and_e hgr3
  obtain ⟨w0, w1, w2, w3, w4, rfl⟩ : ∃ w0 w1 w2 w3 w4 : Value, args = #[w0, w1, w2, w3, w4] := by
    have hs : args.size = 5 := by simpa [Cond.value, given_1] using hg0
    obtain ⟨L⟩ := args
    match L, hs with
    | [w0, w1, w2, w3, w4], _ => exact ⟨w0, w1, w2, w3, w4, rfl⟩
  have hw := fun d (hd : d ∈ tables_1) => atoms_spec (ws := Jvm.Cond.code x code maxLocals ret :: tables_1) hat d (List.mem_cons_of_mem _ hd)
  have hfit : Fit s := fun {y c} hc i hi => by
    obtain ⟨ha, rfl⟩ := Array.getElem?_eq_some_iff.mp hc
    have q := List.all_eq_true.mp ((Array.all_eq_true_iff_forall_mem.mp hF) _ (Array.getElem_mem ha)) i (List.mem_range.mpr hi)
    simpa [Array.getElem?_eq_getElem hi] using q
  obtain ⟨hsets, hown0⟩ := atoms_of _ (rest_1_c_eq ▸ (show rest_1_c.before _ s = true from hrest))
  have hr0 := Cond.before_iff.mp hown0
  obtain ⟨x0, ei0⟩ := is_v hg1
  obtain rfl : w0 = (.int x0) := Option.some.inj ei0
  obtain ⟨x1, ei1⟩ := is_v hg2
  obtain rfl : w1 = (.int x1) := Option.some.inj ei1
  obtain ⟨x2, ei2⟩ := is_v hg3
  obtain rfl : w2 = (.int x2) := Option.some.inj ei2
  obtain ⟨x3, ei3⟩ := is_v hg4
  obtain rfl : w3 = (.int x3) := Option.some.inj ei3
  obtain ⟨x4, ei4⟩ := is_v hg5
  obtain rfl : w4 = (.int x4) := Option.some.inj ei4
  obtain ⟨nr0, nr1⟩ := and_e hn
  obtain ⟨nr2, nr3⟩ := and_e nr1
  obtain ⟨nr4, nr5⟩ := and_e nr3
  obtain ⟨nr6, nr7⟩ := and_e nr5
  obtain ⟨nr8, nr9⟩ := and_e nr7
  obtain ⟨nr10, nr11⟩ := and_e nr9
  obtain ⟨nr12, nr13⟩ := and_e nr11
  obtain ⟨nr14, nr15⟩ := and_e nr13
  obtain ⟨nr16, nr17⟩ := and_e nr15
  obtain ⟨nr18, nr19⟩ := and_e nr17
  obtain ⟨nr20, nr21⟩ := and_e nr19
  obtain ⟨nr22, nr23⟩ := and_e nr21
  obtain ⟨nr24, nr25⟩ := and_e nr23
  obtain ⟨nr26, nr27⟩ := and_e nr25
  obtain ⟨nr28, nr29⟩ := and_e nr27
  obtain ⟨nr30, nr31⟩ := and_e nr29
  obtain ⟨nr32, nr33⟩ := and_e nr31
  obtain ⟨nr34, nr35⟩ := and_e nr33
  obtain ⟨nr36, nr37⟩ := and_e nr35
  obtain ⟨nr38, nr39⟩ := and_e nr37
  obtain ⟨nr40, nr41⟩ := and_e nr39
  obtain ⟨nr42, nr43⟩ := and_e nr41
  obtain ⟨nr44, nr45⟩ := and_e nr43
  obtain ⟨nr46, nr47⟩ := and_e nr45
  obtain ⟨nr48, nr49⟩ := and_e nr47
  obtain ⟨nr50, nr51⟩ := and_e nr49
  obtain ⟨nr52, nr53⟩ := and_e nr51
  obtain ⟨nr54, nr55⟩ := and_e nr53
  obtain ⟨nr56, nr57⟩ := and_e nr55
  obtain ⟨nr58, nr59⟩ := and_e nr57
  obtain ⟨va, eva⟩ := arr_v nr0
  obtain ⟨cl, A⟩ := Arr.start eva nr0
  have EV : Exa s s.heap va "[Lcom/example/picketline/picketline/protocol/Protocol;" := Exa.start eva nr2
  have SV : Sta s s.heap "com/example/picketline/picketline/protocol/Protocol" "$VALUES" "[Lcom/example/picketline/picketline/protocol/Protocol;" (.ref va) := Sta.start eva (Or.inr ⟨(hw _ (mW 36 rfl)), (hw _ (mW 49 rfl))⟩)
  have hal : s.arrayAt? va = some cl := Arr.fin (Vm.Alike.refl _) A
  have hsz := own_alen eva hal nr4
  obtain ⟨w0', ew0⟩ := exa_v nr6
  have Ew0 : Exa s s.heap w0' "com/example/picketline/picketline/protocol/Protocol$1" := Exa.start ew0 nr6
  have sl0 := own_el eva hal (by decide) ew0
  obtain ⟨w1', ew1⟩ := exa_v nr8
  have Ew1 : Exa s s.heap w1' "com/example/picketline/picketline/protocol/Protocol$2" := Exa.start ew1 nr8
  have sl1 := own_el eva hal (by decide) ew1
  have AV : Arv s s.heap va cl.cls (.object "com/example/picketline/picketline/protocol/Protocol") (2 : Int32) [(.ref w0'), (.ref w1')] .null := Arv.start hfit A hsz.1 hsz.2 (by decide) rfl ⟨sl0, sl1, trivial⟩
  have SO0 : Sta s s.heap "com/example/picketline/picketline/protocol/Protocol" "OBLIVIOUS" "Lcom/example/picketline/picketline/protocol/Protocol;" (.ref w0') := Sta.start (own_eqr ew0 nr18) (Or.inr ⟨(hw _ (mW 36 rfl)), (hw _ (mW 101 rfl))⟩)
  have SO1 : Sta s s.heap "com/example/picketline/picketline/protocol/Protocol" "TWO_BIT" "Lcom/example/picketline/picketline/protocol/Protocol;" (.ref w1') := Sta.start (own_eqr ew1 nr28) (Or.inr ⟨(hw _ (mW 36 rfl)), (hw _ (mW 111 rfl))⟩)
  obtain ⟨z0', ez0⟩ := exa_v nr10
  have Ez0 : Exa s s.heap z0' "java/lang/String" := Exa.start ez0 nr10
  have Fw0 : Fld s s.heap w0' "com/example/picketline/picketline/protocol/Protocol" "word" "Ljava/lang/String;" (.ref z0') := Fld.start ((fld_at ew0).symm.trans ez0)
  have Fc0 := own_fld ez0 nr12
  obtain ⟨v0', ev0⟩ := arr_v nr14
  obtain ⟨cb0, B0⟩ := Arr.start ev0 nr14
  have Fv0 : Fld s s.heap z0' "java/lang/String" "value" "[B" (.ref v0') := Fld.start ((fld_at ez0).symm.trans ev0)
  have halb0 : s.arrayAt? v0' = some cb0 := Arr.fin (Vm.Alike.refl _) B0
  have hszb0 := own_alen ev0 halb0 nr16
  have sb0_0 := own_el ev0 halb0 (by decide) (eqv_i (Term.int_eval 111) nr30)
  have sb0_1 := own_el ev0 halb0 (by decide) (eqv_i (Term.int_eval 98) nr32)
  have sb0_2 := own_el ev0 halb0 (by decide) (eqv_i (Term.int_eval 108) nr34)
  have sb0_3 := own_el ev0 halb0 (by decide) (eqv_i (Term.int_eval 105) nr36)
  have sb0_4 := own_el ev0 halb0 (by decide) (eqv_i (Term.int_eval 118) nr38)
  have sb0_5 := own_el ev0 halb0 (by decide) (eqv_i (Term.int_eval 105) nr40)
  have sb0_6 := own_el ev0 halb0 (by decide) (eqv_i (Term.int_eval 111) nr42)
  have sb0_7 := own_el ev0 halb0 (by decide) (eqv_i (Term.int_eval 117) nr44)
  have sb0_8 := own_el ev0 halb0 (by decide) (eqv_i (Term.int_eval 115) nr46)
  have Vb0 : Arv s s.heap v0' cb0.cls .byte (9 : Int32) (BV C9) (.int 0) := Arv.start hfit B0 hszb0.1 hszb0.2 (by decide) rfl ⟨sb0_0, sb0_1, sb0_2, sb0_3, sb0_4, sb0_5, sb0_6, sb0_7, sb0_8, trivial⟩
  have SL0 : StL s s.heap z0' v0' cb0.cls 9 C9 0 0 := ⟨Ez0, Fc0, Fv0, Vb0, trivial, Exa.neArv Ez0 Vb0 (hw _ (mW 6 rfl))⟩
  obtain ⟨z1', ez1⟩ := exa_v nr20
  have Ez1 : Exa s s.heap z1' "java/lang/String" := Exa.start ez1 nr20
  have Fw1 : Fld s s.heap w1' "com/example/picketline/picketline/protocol/Protocol" "word" "Ljava/lang/String;" (.ref z1') := Fld.start ((fld_at ew1).symm.trans ez1)
  have Fc1 := own_fld ez1 nr22
  obtain ⟨v1', ev1⟩ := arr_v nr24
  obtain ⟨cb1, B1⟩ := Arr.start ev1 nr24
  have Fv1 : Fld s s.heap z1' "java/lang/String" "value" "[B" (.ref v1') := Fld.start ((fld_at ez1).symm.trans ev1)
  have halb1 : s.arrayAt? v1' = some cb1 := Arr.fin (Vm.Alike.refl _) B1
  have hszb1 := own_alen ev1 halb1 nr26
  have sb1_0 := own_el ev1 halb1 (by decide) (eqv_i (Term.int_eval 116) nr48)
  have sb1_1 := own_el ev1 halb1 (by decide) (eqv_i (Term.int_eval 119) nr50)
  have sb1_2 := own_el ev1 halb1 (by decide) (eqv_i (Term.int_eval 111) nr52)
  have sb1_3 := own_el ev1 halb1 (by decide) (eqv_i (Term.int_eval 45) nr54)
  have sb1_4 := own_el ev1 halb1 (by decide) (eqv_i (Term.int_eval 98) nr56)
  have sb1_5 := own_el ev1 halb1 (by decide) (eqv_i (Term.int_eval 105) nr58)
  have sb1_6 := own_el ev1 halb1 (by decide) (eqv_i (Term.int_eval 116) nr59)
  have Vb1 : Arv s s.heap v1' cb1.cls .byte (7 : Int32) (BV C7) (.int 0) := Arv.start hfit B1 hszb1.1 hszb1.2 (by decide) rfl ⟨sb1_0, sb1_1, sb1_2, sb1_3, sb1_4, sb1_5, sb1_6, trivial⟩
  have SL1 : StL s s.heap z1' v1' cb1.cls 7 C7 0 0 := ⟨Ez1, Fc1, Fv1, Vb1, trivial, Exa.neArv Ez1 Vb1 (hw _ (mW 6 rfl))⟩
  obtain ⟨eo', eeo⟩ := exa_v (Cond.before_iff.mp (hsets _ (mJ 11 rfl)))
  have Eeo : Exa s s.heap eo' "java/util/Optional" := Exa.start eeo (Cond.before_iff.mp (hsets _ (mJ 11 rfl)))
  have Seo : Sta s s.heap "java/util/Optional" "EMPTY" "Ljava/util/Optional;" (.ref eo') := Sta.start eeo (Or.inl (hsets _ (mJ 10 rfl)))
  have Feo := own_nullf eeo (Cond.before_iff.mp (hsets _ (mJ 12 rfl)))
  obtain ⟨cz, ecz⟩ := is_v (Cond.before_iff.mp (hsets _ (mJ 1 rfl)))
  have hcz : cz ≠ 0 := gotF (Cond.eq_ints ecz (Term.int_eval 0)) (not_v (Cond.before_iff.mp (hsets _ (mJ 2 rfl))))
  have SC : Sta s s.heap "java/lang/String" "COMPACT_STRINGS" "Z" (.int cz) := Sta.start ecz (Or.inl (hsets _ (mJ 0 rfl)))
  obtain ⟨fv, hfv⟩ : ∃ v : Value, v = .null := ⟨_, rfl⟩
  have J0 : Jd s cz fv := ⟨SC, hcz, hfv, trivial⟩
  have hC : CHv s [("com/example/picketline/picketline/protocol/Protocol", 37), ("com/example/picketline/picketline/protocol/ProtocolNamedPinLaw", 20), ("com/example/picketline/picketline/protocol/ProtocolNamedPinLaw", 42), ("java/lang/String", 7)] s.vm s.heap := CHv.start (own_EW hw) (own_held hcalls.1) (hsets _ (mJ 2 rfl)) (hw _ (mW 23 rfl)) (hw _ (mW 6 rfl))
  have PP : Prk s va w0' w1' eo' z0' z1' v0' v1' cl.cls cb0.cls cb1.cls := ⟨SV, EV, AV, SO0, SO1, Seo, Eeo, Feo, Ew0, Ew1, Fw0, Fw1, SL0, SL1, trivial⟩
  obtain ⟨n, o, h1, h2, h3, _, L, rfl, ⟨rfl, N⟩, -, hq⟩ := rmL l s _ hw tables_1 x0 x1 x2 x3 x4 cz fv va w0' w1' eo' z0' z1' v0' v1' cl.cls cb0.cls cb1.cls s.heap s.heap.size (Nat.le_refl _) (Old.start s) J0 PP p e ha hc hk s m _ below hf ((Spec.applies_iff_loose hf).mp happ).1 ⟨rfl, State.Warmed39.refl s, rfl, hC⟩ trivial
  refine ⟨n, _, h1, h2, h3, hpost _ _ _ _ _ _ ⟨Cond.after_iff.mpr rfl, Cond.after_iff.mpr (eq_i res_at (Term.int_eval (1)) rfl), trivial⟩ ⟨hq.1, hq.2.1, hq.2.2.1, (hq.2.2.2.sift fun y hy => Or.inr (N y hy)).mono (by decide) (by decide)⟩⟩
theorem main_1_1 : Claimed_1_1 := comes_1 fun _ _ _ _ _ _ h hF => ⟨h.1, hF.1, hF.2.1, hF.2.2.1, hF.2.2.2⟩
theorem main_1_2 : Claimed_1_2 := comes_1 fun _ _ _ _ _ _ h hF => ⟨h.2.1, hF.1, hF.2.1, hF.2.2.1, hF.2.2.2⟩
end Jvm.Pilot.@@N@@
namespace Jvm.Pilot.@@N@@
open Jvm Jvm.ClassFile Sem Op Lib Jvm.Free Jvm.Stand Jvm.Pilot.@@N@@.Jvm.D
/-! MADE BY PROGRAM (witnessworld.py) out of the Statement's table words and the real class files: 26 classes; the members and pool entries that the words name. The judged class is class 1, her method 1. -/
namespace start1
open Jvm.ClassFile
def u (s : String) : CpInfo := .utf8 (stringToUtf16 s)
/-- a pool by its gaps: so many unusable entries, then the entry; so many at the end -/
def gap : Nat → List CpInfo → List CpInfo
  | 0, r => r
  | n + 1, r => .unusable :: gap n r
def poolList (es : List (Nat × CpInfo)) (last : Nat) : List CpInfo := es.foldr (fun e r => gap e.1 (e.2 :: r)) (gap last [])
def pool (es : List (Nat × CpInfo)) (last : Nat) : Array CpInfo := ⟨poolList es last⟩
def fileOf (pool : Array CpInfo) (this : Nat) (attrs : Array Attribute := #[]) (ms : Array MethodInfo := #[]) (fl : Nat := 33) (sup : Nat := 0) (ifs : Array Nat := #[]) (fds : Array FieldInfo := #[]) : ClassFile where
  minorVersion := 0
  majorVersion := 65
  constantPool := pool
  accessFlags := fl
  thisClass := this
  superClass := sup
  interfaces := ifs
  fields := fds
  methods := ms
  attributes := attrs
def plain (name : String) (sup : Option ClassId) : Class where
  name := name
  kind := .ordinary
  loader := none
  accessFlags := 33
  super := sup
  interfaces := #[]
  cf := none
  fields := #[]
  methods := #[]
  instanceTypes := #[]
  staticTypes := #[]
  resolved := #[]
  callSites := []
  init := .initialized
  statics := none
  mirror := none

def pool0 : Array CpInfo := pool [(5, u "<init>"), (0, u "()V"), (1, .class_ 10), (1, u "java/lang/Object"), (85, u "clone"), (0, u "()Ljava/lang/Object;")] 26

def k0c0 : Code := { maxStack := 0, maxLocals := 1, code := object_method_1_code, exceptionTable := #[], attributes := #[] }
def k0m0 : Method := { name := "<init>", desc := "()V", sig := { parameters := [], returnType := none }, accessFlags := 1, code := some k0c0 }
def k0m1 : Method := { name := "clone", desc := "()Ljava/lang/Object;", sig := { parameters := [], returnType := some (.object "java/lang/Object") }, accessFlags := 260, code := none }
/-- java/lang/Object -/
def k0 : Class := { plain "java/lang/Object" none with
  accessFlags := 33
  interfaces := #[]
  cf := some (fileOf pool0 8 #[] #[{ accessFlags := 1, nameIndex := 5, descriptorIndex := 6, attributes := #[] }, { accessFlags := 260, nameIndex := 96, descriptorIndex := 97, attributes := #[] }] 33 0 #[] #[])
  fields := #[]
  methods := #[k0m0, k0m1]
  instanceTypes := #[]
  staticTypes := #[]
  resolved := Array.replicate 124 none
  statics := none }

def pool1 : Array CpInfo := pool [(2, .class_ 4), (1, u "java/lang/Object"), (0, u "<init>"), (0, u "()V"), (0, .integer 2147483647), (0, .methodref 9 10), (0, .class_ 11), (0, .nameAndType 12 13), (0, u "com/example/picketline/picketline/protocol/ProtocolNamedPinLaw"), (0, u "prefix"), (0, u "([CI)Ljava/lang/String;"), (0, .methodref 15 16), (0, .class_ 17), (0, .nameAndType 18 19), (0, u "com/example/picketline/picketline/protocol/Protocol"), (0, u "named"), (0, u "(Ljava/lang/String;)Ljava/util/Optional;"), (0, .string 21), (0, u "oblivious"), (0, .methodref 23 24), (0, .class_ 25), (0, .nameAndType 26 27), (0, u "java/lang/String"), (0, u "equals"), (0, u "(Ljava/lang/Object;)Z"), (0, .methodref 29 30), (0, .class_ 31), (0, .nameAndType 32 33), (0, u "java/util/Optional"), (0, u "isPresent"), (0, u "()Z"), (0, .methodref 29 35), (0, .nameAndType 36 37), (0, u "get"), (0, u "()Ljava/lang/Object;"), (0, .fieldref 15 39), (0, .nameAndType 40 41), (0, u "OBLIVIOUS"), (0, u "Lcom/example/picketline/picketline/protocol/Protocol;"), (0, .string 43), (0, u "two-bit"), (0, .fieldref 15 45), (0, .nameAndType 46 41), (0, u "TWO_BIT"), (0, .methodref 23 48), (0, .nameAndType 5 49), (0, u "([C)V"), (2, u "law"), (0, u "(IIIII)Z")] 5

def k1m0 : Method := { name := "<init>", desc := "()V", sig := { parameters := [], returnType := none }, accessFlags := 1, code := none }
def k1c1 : Code := { maxStack := 4, maxLocals := 11, code := code, exceptionTable := #[], attributes := #[] }
def k1m1 : Method := { name := "law", desc := "(IIIII)Z", sig := { parameters := [.int, .int, .int, .int, .int], returnType := some .boolean }, accessFlags := 9, code := some k1c1 }
def k1c2 : Code := { maxStack := 7, maxLocals := 2, code := method_3_code, exceptionTable := #[], attributes := #[] }
def k1m2 : Method := { name := "prefix", desc := "([CI)Ljava/lang/String;", sig := { parameters := [(.array .char), .int], returnType := some (.object "java/lang/String") }, accessFlags := 10, code := some k1c2 }
/-- com/example/picketline/picketline/protocol/ProtocolNamedPinLaw -/
def k1 : Class := { plain "com/example/picketline/picketline/protocol/ProtocolNamedPinLaw" (some 0) with
  accessFlags := 49
  interfaces := #[]
  cf := some (fileOf pool1 9 #[] #[{ accessFlags := 1, nameIndex := 5, descriptorIndex := 6, attributes := #[] }, { accessFlags := 9, nameIndex := 52, descriptorIndex := 53, attributes := #[] }, { accessFlags := 10, nameIndex := 12, descriptorIndex := 13, attributes := #[] }] 49 2 #[] #[])
  fields := #[]
  methods := #[k1m0, k1m1, k1m2]
  instanceTypes := #[]
  staticTypes := #[]
  resolved := Array.replicate 59 none
  statics := none }

def pool2 : Array CpInfo := pool [(1, .class_ 2), (0, u "java/io/Serializable"), (0, .class_ 4), (0, u "java/lang/Object")] 2

/-- java/io/Serializable -/
def k2 : Class := { plain "java/io/Serializable" (some 0) with
  accessFlags := 1537
  interfaces := #[]
  cf := some (fileOf pool2 1 #[] #[] 1537 3 #[] #[])
  fields := #[]
  methods := #[]
  instanceTypes := #[]
  staticTypes := #[]
  resolved := Array.replicate 7 none
  statics := none }

def pool3 : Array CpInfo := pool [(1, .class_ 2), (0, u "java/lang/Comparable"), (0, .class_ 4), (0, u "java/lang/Object")] 7

/-- java/lang/Comparable -/
def k3 : Class := { plain "java/lang/Comparable" (some 0) with
  accessFlags := 1537
  interfaces := #[]
  cf := some (fileOf pool3 1 #[] #[] 1537 3 #[] #[])
  fields := #[]
  methods := #[]
  instanceTypes := #[]
  staticTypes := #[]
  resolved := Array.replicate 12 none
  statics := none }

def pool4 : Array CpInfo := pool [(2, .class_ 4), (1, u "java/lang/CharSequence"), (42, .class_ 48), (0, u "java/lang/CharSequence$1CodePointIterator"), (10, .class_ 60), (0, u "java/lang/CharSequence$1CharIterator"), (5, .class_ 67), (0, u "java/lang/Object")] 63

/-- java/lang/CharSequence -/
def k4 : Class := { plain "java/lang/CharSequence" (some 0) with
  accessFlags := 1537
  interfaces := #[]
  cf := some (fileOf pool4 2 #[.nestMembers #[47, 59]] #[] 1537 66 #[] #[])
  fields := #[]
  methods := #[]
  instanceTypes := #[]
  staticTypes := #[]
  resolved := Array.replicate 131 none
  statics := none }

def pool5 : Array CpInfo := pool [(1, .class_ 2), (0, u "java/lang/constant/Constable"), (0, .class_ 4), (0, u "java/lang/Object")] 6

/-- java/lang/constant/Constable -/
def k5 : Class := { plain "java/lang/constant/Constable" (some 0) with
  accessFlags := 1537
  interfaces := #[]
  cf := some (fileOf pool5 1 #[] #[] 1537 3 #[] #[])
  fields := #[]
  methods := #[]
  instanceTypes := #[]
  staticTypes := #[]
  resolved := Array.replicate 11 none
  statics := none }

def pool6 : Array CpInfo := pool [(1, .class_ 2), (0, u "java/lang/constant/ConstantDesc"), (0, .class_ 4), (0, u "java/lang/Object")] 32

/-- java/lang/constant/ConstantDesc -/
def k6 : Class := { plain "java/lang/constant/ConstantDesc" (some 0) with
  accessFlags := 1537
  interfaces := #[]
  cf := some (fileOf pool6 1 #[] #[] 1537 3 #[] #[])
  fields := #[]
  methods := #[]
  instanceTypes := #[]
  staticTypes := #[]
  resolved := Array.replicate 37 none
  statics := none }

def pool7 : Array CpInfo := pool [(1, .methodref 2 3), (0, .class_ 4), (0, .nameAndType 5 6), (0, u "java/lang/Object"), (0, u "<init>"), (0, u "()V"), (0, .string 8), (0, u ""), (0, .fieldref 10 11), (0, .class_ 12), (0, .nameAndType 13 14), (0, u "java/lang/String"), (0, u "value"), (0, u "[B"), (0, .fieldref 10 16), (0, .nameAndType 17 18), (0, u "coder"), (0, u "B"), (2, u "hash"), (0, u "I"), (2, u "hashIsZero"), (0, u "Z"), (0, .methodref 10 28), (0, .nameAndType 5 29), (0, u "([CIILjava/lang/Void;)V"), (8, .fieldref 10 39), (0, .nameAndType 40 26), (0, u "COMPACT_STRINGS"), (1, .class_ 44), (1, u "java/lang/StringUTF16"), (0, u "compress"), (1, .methodref 42 48), (0, .nameAndType 49 50), (0, u "coderFromArrayLen"), (0, u "([BI)B"), (56, .class_ 109), (1, u "java/lang/StringLatin1"), (67, .methodref 42 178), (0, .nameAndType 45 179), (0, u "([CII)[B"), (361, .methodref 107 542), (0, .nameAndType 543 544), (0, u "equals"), (0, u "([B[B)Z"), (28, u "(Ljava/lang/Object;)Z"), (1, .class_ 576), (0, u "java/lang/CharSequence"), (22, u "CASE_INSENSITIVE_ORDER"), (0, u "Ljava/util/Comparator;"), (409, u "([C)V"), (90, u "serialPersistentFields"), (0, u "[Ljava/io/ObjectStreamField;"), (0, .class_ 1104), (0, u "java/lang/String$CaseInsensitiveComparator"), (1, .class_ 1107), (0, u "java/io/Serializable"), (0, .class_ 1109), (0, u "java/lang/Comparable"), (0, .class_ 1111), (0, u "java/lang/constant/Constable"), (0, .class_ 1113), (0, u "java/lang/constant/ConstantDesc"), (2, u "serialVersionUID"), (0, u "J"), (3, u "REPL"), (0, u "C"), (2, u "LATIN1"), (1, u "UTF16")] 323

def k7m0 : Method := { name := "<init>", desc := "()V", sig := { parameters := [], returnType := none }, accessFlags := 1, code := none }
def k7c1 : Code := { maxStack := 5, maxLocals := 2, code := jdk_42_method_3_code, exceptionTable := #[], attributes := #[] }
def k7m1 : Method := { name := "<init>", desc := "([C)V", sig := { parameters := [(.array .char)], returnType := none }, accessFlags := 1, code := some k7c1 }
def k7c2 : Code := { maxStack := 2, maxLocals := 3, code := jdk_42_method_66_code, exceptionTable := #[], attributes := #[] }
def k7m2 : Method := { name := "equals", desc := "(Ljava/lang/Object;)Z", sig := { parameters := [(.object "java/lang/Object")], returnType := some .boolean }, accessFlags := 1, code := some k7c2 }
def k7c3 : Code := { maxStack := 4, maxLocals := 6, code := jdk_42_method_149_code, exceptionTable := #[], attributes := #[] }
def k7m3 : Method := { name := "<init>", desc := "([CIILjava/lang/Void;)V", sig := { parameters := [(.array .char), .int, .int, (.object "java/lang/Void")], returnType := none }, accessFlags := 2, code := some k7c3 }
/-- java/lang/String -/
def k7 : Class := { plain "java/lang/String" (some 0) with
  accessFlags := 49
  interfaces := #[2, 3, 4, 5, 6]
  cf := some (fileOf pool7 10 #[.nestMembers #[1103]] #[{ accessFlags := 1, nameIndex := 5, descriptorIndex := 6, attributes := #[] }, { accessFlags := 1, nameIndex := 5, descriptorIndex := 1010, attributes := #[] }, { accessFlags := 1, nameIndex := 543, descriptorIndex := 573, attributes := #[] }, { accessFlags := 2, nameIndex := 5, descriptorIndex := 29, attributes := #[] }] 49 2 #[1106, 1108, 575, 1110, 1112] #[{ accessFlags := 18, nameIndex := 13, descriptorIndex := 14, attributes := #[] }, { accessFlags := 18, nameIndex := 17, descriptorIndex := 18, attributes := #[] }, { accessFlags := 2, nameIndex := 21, descriptorIndex := 22, attributes := #[] }, { accessFlags := 2, nameIndex := 25, descriptorIndex := 26, attributes := #[] }, { accessFlags := 26, nameIndex := 1116, descriptorIndex := 1117, attributes := #[] }, { accessFlags := 24, nameIndex := 40, descriptorIndex := 26, attributes := #[] }, { accessFlags := 26, nameIndex := 1101, descriptorIndex := 1102, attributes := #[] }, { accessFlags := 26, nameIndex := 1121, descriptorIndex := 1122, attributes := #[] }, { accessFlags := 25, nameIndex := 599, descriptorIndex := 600, attributes := #[] }, { accessFlags := 24, nameIndex := 1125, descriptorIndex := 18, attributes := #[] }, { accessFlags := 24, nameIndex := 1127, descriptorIndex := 18, attributes := #[] }])
  fields := #[{ name := "value", type := (.array .byte), accessFlags := 18, slot := 0, constantValue := 0 }, { name := "coder", type := .byte, accessFlags := 18, slot := 1, constantValue := 0 }, { name := "hash", type := .int, accessFlags := 2, slot := 2, constantValue := 0 }, { name := "hashIsZero", type := .boolean, accessFlags := 2, slot := 3, constantValue := 0 }, { name := "serialVersionUID", type := .long, accessFlags := 26, slot := 0, constantValue := 0 }, { name := "COMPACT_STRINGS", type := .boolean, accessFlags := 24, slot := 1, constantValue := 0 }, { name := "serialPersistentFields", type := (.array (.object "java/io/ObjectStreamField")), accessFlags := 26, slot := 2, constantValue := 0 }, { name := "REPL", type := .char, accessFlags := 26, slot := 3, constantValue := 0 }, { name := "CASE_INSENSITIVE_ORDER", type := (.object "java/util/Comparator"), accessFlags := 25, slot := 4, constantValue := 0 }, { name := "LATIN1", type := .byte, accessFlags := 24, slot := 5, constantValue := 0 }, { name := "UTF16", type := .byte, accessFlags := 24, slot := 6, constantValue := 0 }]
  methods := #[k7m0, k7m1, k7m2, k7m3]
  instanceTypes := #[(.array .byte), .byte, .int, .boolean]
  staticTypes := #[.long, .boolean, (.array (.object "java/io/ObjectStreamField")), .char, (.object "java/util/Comparator"), .byte, .byte]
  resolved := Array.replicate 1451 none
  statics := some 0 }

def pool8 : Array CpInfo := pool [(6, .class_ 8), (1, u "java/lang/Object"), (0, u "<init>"), (0, u "()V"), (1, .class_ 14), (1, u "java/lang/StringUTF16"), (31, u "$assertionsDisabled"), (0, u "Z"), (13, u "HI_BYTE_SHIFT"), (0, u "I"), (2, u "LO_BYTE_SHIFT"), (49, .methodref 12 116), (0, .nameAndType 117 118), (0, u "compress"), (0, u "([CI[BII)I"), (3, u "([CII)[B"), (138, u "coderFromArrayLen"), (0, u "([BI)B"), (106, .class_ 371), (1, u "java/lang/StringUTF16$LinesSpliterator"), (58, u "MAX_LENGTH"), (196, .class_ 628), (0, u "java/lang/StringUTF16$CodePointsSpliterator"), (0, .class_ 630), (0, u "java/lang/StringUTF16$CharsSpliterator")] 4

def k8m0 : Method := { name := "<init>", desc := "()V", sig := { parameters := [], returnType := none }, accessFlags := 0, code := none }
def k8c1 : Code := { maxStack := 2, maxLocals := 2, code := jdk_52_method_15_code, exceptionTable := #[], attributes := #[] }
def k8m1 : Method := { name := "coderFromArrayLen", desc := "([BI)B", sig := { parameters := [(.array .byte), .int], returnType := some .byte }, accessFlags := 8, code := some k8c1 }
def k8c2 : Code := { maxStack := 5, maxLocals := 6, code := jdk_52_method_16_code, exceptionTable := #[], attributes := #[] }
def k8m2 : Method := { name := "compress", desc := "([CII)[B", sig := { parameters := [(.array .char), .int, .int], returnType := some (.array .byte) }, accessFlags := 9, code := some k8c2 }
def k8c3 : Code := { maxStack := 3, maxLocals := 7, code := jdk_52_method_21_code, exceptionTable := #[], attributes := #[] }
def k8m3 : Method := { name := "compress", desc := "([CI[BII)I", sig := { parameters := [(.array .char), .int, (.array .byte), .int, .int], returnType := some .int }, accessFlags := 9, code := some k8c3 }
/-- java/lang/StringUTF16 -/
def k8 : Class := { plain "java/lang/StringUTF16" (some 0) with
  accessFlags := 48
  interfaces := #[]
  cf := some (fileOf pool8 12 #[.nestMembers #[627, 629, 369]] #[{ accessFlags := 0, nameIndex := 9, descriptorIndex := 10, attributes := #[] }, { accessFlags := 8, nameIndex := 261, descriptorIndex := 262, attributes := #[] }, { accessFlags := 9, nameIndex := 117, descriptorIndex := 122, attributes := #[] }, { accessFlags := 9, nameIndex := 117, descriptorIndex := 118, attributes := #[] }] 48 6 #[] #[{ accessFlags := 26, nameIndex := 61, descriptorIndex := 62, attributes := #[] }, { accessFlags := 26, nameIndex := 65, descriptorIndex := 62, attributes := #[] }, { accessFlags := 24, nameIndex := 430, descriptorIndex := 62, attributes := #[] }, { accessFlags := 4120, nameIndex := 46, descriptorIndex := 47, attributes := #[] }])
  fields := #[{ name := "HI_BYTE_SHIFT", type := .int, accessFlags := 26, slot := 0, constantValue := 0 }, { name := "LO_BYTE_SHIFT", type := .int, accessFlags := 26, slot := 1, constantValue := 0 }, { name := "MAX_LENGTH", type := .int, accessFlags := 24, slot := 2, constantValue := 0 }, { name := "$assertionsDisabled", type := .boolean, accessFlags := 4120, slot := 3, constantValue := 0 }]
  methods := #[k8m0, k8m1, k8m2, k8m3]
  instanceTypes := #[]
  staticTypes := #[.int, .int, .int, .boolean]
  resolved := Array.replicate 635 none
  statics := none }

def pool9 : Array CpInfo := pool [(2, .class_ 4), (1, u "java/lang/Enum"), (0, u "name"), (0, u "Ljava/lang/String;"), (2, u "ordinal"), (0, u "I"), (1, .class_ 14), (1, u "java/lang/Object"), (4, u "hash"), (86, .class_ 108), (1, u "java/lang/Enum$EnumDesc"), (2, .class_ 112), (0, u "java/lang/constant/Constable"), (0, .class_ 114), (0, u "java/lang/Comparable"), (0, .class_ 116), (0, u "java/io/Serializable")] 87

/-- java/lang/Enum -/
def k9 : Class := { plain "java/lang/Enum" (some 0) with
  accessFlags := 1057
  interfaces := #[5, 3, 2]
  cf := some (fileOf pool9 2 #[.nestMembers #[106]] #[] 1057 12 #[111, 113, 115] #[{ accessFlags := 18, nameIndex := 5, descriptorIndex := 6, attributes := #[] }, { accessFlags := 18, nameIndex := 9, descriptorIndex := 10, attributes := #[] }, { accessFlags := 2, nameIndex := 19, descriptorIndex := 10, attributes := #[] }])
  fields := #[{ name := "name", type := (.object "java/lang/String"), accessFlags := 18, slot := 0, constantValue := 0 }, { name := "ordinal", type := .int, accessFlags := 18, slot := 1, constantValue := 0 }, { name := "hash", type := .int, accessFlags := 2, slot := 2, constantValue := 0 }]
  methods := #[]
  instanceTypes := #[(.object "java/lang/String"), .int, .int]
  staticTypes := #[]
  resolved := Array.replicate 204 none
  statics := none }

def pool10 : Array CpInfo := pool [(1, .class_ 2), (0, u "com/example/picketline/picketline/protocol/Protocol"), (2, u "OBLIVIOUS"), (0, u "Lcom/example/picketline/picketline/protocol/Protocol;"), (2, u "TWO_BIT"), (0, .fieldref 1 11), (0, .nameAndType 12 13), (0, u "$VALUES"), (0, u "[Lcom/example/picketline/picketline/protocol/Protocol;"), (0, .methodref 15 16), (0, .class_ 13), (0, .nameAndType 17 18), (0, u "clone"), (0, u "()Ljava/lang/Object;"), (1, .class_ 22), (1, u "java/lang/Enum"), (6, .fieldref 1 30), (0, .nameAndType 31 32), (0, u "word"), (0, u "Ljava/lang/String;"), (2, u "remembers"), (0, u "Z"), (0, .string 31), (0, .methodref 39 40), (0, .class_ 41), (0, .nameAndType 42 43), (0, u "java/util/Objects"), (0, u "requireNonNull"), (0, u "(Ljava/lang/Object;Ljava/lang/String;)Ljava/lang/Object;"), (0, .methodref 1 45), (0, .nameAndType 46 47), (0, u "values"), (0, u "()[Lcom/example/picketline/picketline/protocol/Protocol;"), (0, .methodref 49 50), (0, .class_ 51), (0, .nameAndType 52 53), (0, u "java/lang/String"), (0, u "equals"), (0, u "(Ljava/lang/Object;)Z"), (0, .methodref 55 56), (0, .class_ 57), (0, .nameAndType 58 59), (0, u "java/util/Optional"), (0, u "of"), (0, u "(Ljava/lang/Object;)Ljava/util/Optional;"), (0, .methodref 55 61), (0, .nameAndType 62 63), (0, u "empty"), (0, u "()Ljava/util/Optional;"), (0, .class_ 65), (0, u "com/example/picketline/picketline/protocol/Protocol$1"), (6, .class_ 73), (0, u "com/example/picketline/picketline/protocol/Protocol$2"), (13, u "named"), (0, u "(Ljava/lang/String;)Ljava/util/Optional;"), (12, .class_ 102), (0, u "com/example/picketline/picketline/protocol/Protocol$3")] 2

def k10c0 : Code := { maxStack := 1, maxLocals := 0, code := prog_34_method_1_code, exceptionTable := #[], attributes := #[] }
def k10m0 : Method := { name := "values", desc := "()[Lcom/example/picketline/picketline/protocol/Protocol;", sig := { parameters := [], returnType := some (.array (.object "com/example/picketline/picketline/protocol/Protocol")) }, accessFlags := 9, code := some k10c0 }
def k10c1 : Code := { maxStack := 2, maxLocals := 5, code := prog_34_method_4_code, exceptionTable := #[], attributes := #[] }
def k10m1 : Method := { name := "named", desc := "(Ljava/lang/String;)Ljava/util/Optional;", sig := { parameters := [(.object "java/lang/String")], returnType := some (.object "java/util/Optional") }, accessFlags := 9, code := some k10c1 }
/-- com/example/picketline/picketline/protocol/Protocol -/
def k10 : Class := { plain "com/example/picketline/picketline/protocol/Protocol" (some 9) with
  accessFlags := 17441
  interfaces := #[]
  cf := some (fileOf pool10 1 #[.nestMembers #[101, 72, 64]] #[{ accessFlags := 9, nameIndex := 46, descriptorIndex := 47, attributes := #[] }, { accessFlags := 9, nameIndex := 87, descriptorIndex := 88, attributes := #[] }] 17441 20 #[] #[{ accessFlags := 16409, nameIndex := 5, descriptorIndex := 6, attributes := #[] }, { accessFlags := 16409, nameIndex := 9, descriptorIndex := 6, attributes := #[] }, { accessFlags := 18, nameIndex := 31, descriptorIndex := 32, attributes := #[] }, { accessFlags := 18, nameIndex := 35, descriptorIndex := 36, attributes := #[] }, { accessFlags := 4122, nameIndex := 12, descriptorIndex := 13, attributes := #[] }])
  fields := #[{ name := "OBLIVIOUS", type := (.object "com/example/picketline/picketline/protocol/Protocol"), accessFlags := 16409, slot := 0, constantValue := 0 }, { name := "TWO_BIT", type := (.object "com/example/picketline/picketline/protocol/Protocol"), accessFlags := 16409, slot := 1, constantValue := 0 }, { name := "word", type := (.object "java/lang/String"), accessFlags := 18, slot := 3, constantValue := 0 }, { name := "remembers", type := .boolean, accessFlags := 18, slot := 4, constantValue := 0 }, { name := "$VALUES", type := (.array (.object "com/example/picketline/picketline/protocol/Protocol")), accessFlags := 4122, slot := 2, constantValue := 0 }]
  methods := #[k10m0, k10m1]
  instanceTypes := #[(.object "java/lang/String"), .int, .int, (.object "java/lang/String"), .boolean]
  staticTypes := #[(.object "com/example/picketline/picketline/protocol/Protocol"), (.object "com/example/picketline/picketline/protocol/Protocol"), (.array (.object "com/example/picketline/picketline/protocol/Protocol"))]
  resolved := Array.replicate 105 none
  statics := some 1 }

def pool11 : Array CpInfo := pool [(2, .class_ 4), (1, u "java/lang/Object"), (0, u "<init>"), (0, u "()V"), (35, .class_ 44), (1, u "java/util/Objects"), (0, u "requireNonNull"), (0, u "(Ljava/lang/Object;)Ljava/lang/Object;"), (47, u "(Ljava/lang/Object;Ljava/lang/String;)Ljava/lang/Object;")] 89

def k11m0 : Method := { name := "<init>", desc := "()V", sig := { parameters := [], returnType := none }, accessFlags := 2, code := none }
def k11c1 : Code := { maxStack := 2, maxLocals := 1, code := jdk_31_method_10_code, exceptionTable := #[], attributes := #[] }
def k11m1 : Method := { name := "requireNonNull", desc := "(Ljava/lang/Object;)Ljava/lang/Object;", sig := { parameters := [(.object "java/lang/Object")], returnType := some (.object "java/lang/Object") }, accessFlags := 9, code := some k11c1 }
def k11c2 : Code := { maxStack := 3, maxLocals := 2, code := jdk_31_method_11_code, exceptionTable := #[], attributes := #[] }
def k11m2 : Method := { name := "requireNonNull", desc := "(Ljava/lang/Object;Ljava/lang/String;)Ljava/lang/Object;", sig := { parameters := [(.object "java/lang/Object"), (.object "java/lang/String")], returnType := some (.object "java/lang/Object") }, accessFlags := 9, code := some k11c2 }
/-- java/util/Objects -/
def k11 : Class := { plain "java/util/Objects" (some 0) with
  accessFlags := 49
  interfaces := #[]
  cf := some (fileOf pool11 42 #[] #[{ accessFlags := 2, nameIndex := 5, descriptorIndex := 6, attributes := #[] }, { accessFlags := 9, nameIndex := 45, descriptorIndex := 46, attributes := #[] }, { accessFlags := 9, nameIndex := 45, descriptorIndex := 94, attributes := #[] }] 49 2 #[] #[])
  fields := #[]
  methods := #[k11m0, k11m1, k11m2]
  instanceTypes := #[]
  staticTypes := #[]
  resolved := Array.replicate 184 none
  statics := none }

def pool12 : Array CpInfo := pool [(1, .class_ 2), (0, u "java/lang/Cloneable"), (0, .class_ 4), (0, u "java/lang/Object")] 2

/-- java/lang/Cloneable -/
def k12 : Class := { plain "java/lang/Cloneable" (some 0) with
  accessFlags := 1537
  interfaces := #[]
  cf := some (fileOf pool12 1 #[] #[] 1537 3 #[] #[])
  fields := #[]
  methods := #[]
  instanceTypes := #[]
  staticTypes := #[]
  resolved := Array.replicate 7 none
  statics := none }

def pool13 : Array CpInfo := pool [(2, .class_ 4), (1, u "com/example/picketline/picketline/protocol/Protocol"), (8, .class_ 14), (0, u "com/example/picketline/picketline/protocol/Protocol$1")] 10

/-- com/example/picketline/picketline/protocol/Protocol$1 -/
def k13 : Class := { plain "com/example/picketline/picketline/protocol/Protocol$1" (some 10) with
  accessFlags := 16432
  interfaces := #[]
  cf := some (fileOf pool13 13 #[.nestHost 2] #[] 16432 2 #[] #[])
  fields := #[]
  methods := #[]
  instanceTypes := #[(.object "java/lang/String"), .int, .int, (.object "java/lang/String"), .boolean]
  staticTypes := #[]
  resolved := Array.replicate 25 none
  statics := none }

def pool14 : Array CpInfo := pool [(4, .class_ 6), (1, u "java/lang/Object"), (0, u "<init>"), (0, u "()V"), (5, .class_ 16), (1, u "java/lang/StringLatin1"), (104, u "$assertionsDisabled"), (0, u "Z"), (98, .class_ 223), (1, u "java/lang/StringLatin1$LinesSpliterator"), (57, u "equals"), (0, u "([B[B)Z"), (107, .class_ 391), (0, u "java/lang/StringLatin1$CharsSpliterator")] 3

def k14m0 : Method := { name := "<init>", desc := "()V", sig := { parameters := [], returnType := none }, accessFlags := 0, code := none }
def k14c1 : Code := { maxStack := 3, maxLocals := 3, code := jdk_43_method_13_code, exceptionTable := #[], attributes := #[] }
def k14m1 : Method := { name := "equals", desc := "([B[B)Z", sig := { parameters := [(.array .byte), (.array .byte)], returnType := some .boolean }, accessFlags := 9, code := some k14c1 }
/-- java/lang/StringLatin1 -/
def k14 : Class := { plain "java/lang/StringLatin1" (some 0) with
  accessFlags := 48
  interfaces := #[]
  cf := some (fileOf pool14 14 #[.nestMembers #[390, 221]] #[{ accessFlags := 0, nameIndex := 7, descriptorIndex := 8, attributes := #[] }, { accessFlags := 9, nameIndex := 281, descriptorIndex := 282, attributes := #[] }] 48 4 #[] #[{ accessFlags := 4120, nameIndex := 121, descriptorIndex := 122, attributes := #[] }])
  fields := #[{ name := "$assertionsDisabled", type := .boolean, accessFlags := 4120, slot := 0, constantValue := 0 }]
  methods := #[k14m0, k14m1]
  instanceTypes := #[]
  staticTypes := #[.boolean]
  resolved := Array.replicate 395 none
  statics := none }

def pool15 : Array CpInfo := pool [(1, .fieldref 2 3), (0, .class_ 4), (0, .nameAndType 5 6), (0, u "java/util/Optional"), (0, u "EMPTY"), (0, u "Ljava/util/Optional;"), (0, .methodref 8 9), (0, .class_ 10), (0, .nameAndType 11 12), (0, u "java/lang/Object"), (0, u "<init>"), (0, u "()V"), (0, .fieldref 2 14), (0, .nameAndType 15 16), (0, u "value"), (0, u "Ljava/lang/Object;"), (0, .methodref 18 19), (0, .class_ 20), (0, .nameAndType 21 22), (0, u "java/util/Objects"), (0, u "requireNonNull"), (0, u "(Ljava/lang/Object;)Ljava/lang/Object;"), (0, .methodref 2 24), (0, .nameAndType 11 25), (0, u "(Ljava/lang/Object;)V"), (20, u "()Z"), (8, u "empty"), (0, u "()Ljava/util/Optional;"), (8, u "(Ljava/lang/Object;)Ljava/util/Optional;"), (2, u "isPresent"), (4, u "get"), (0, u "()Ljava/lang/Object;"), (7, u "of")] 104

def k15c0 : Code := { maxStack := 1, maxLocals := 1, code := jdk_32_method_1_code, exceptionTable := #[], attributes := #[] }
def k15m0 : Method := { name := "empty", desc := "()Ljava/util/Optional;", sig := { parameters := [], returnType := some (.object "java/util/Optional") }, accessFlags := 9, code := some k15c0 }
def k15c1 : Code := { maxStack := 2, maxLocals := 2, code := jdk_32_method_2_code, exceptionTable := #[], attributes := #[] }
def k15m1 : Method := { name := "<init>", desc := "(Ljava/lang/Object;)V", sig := { parameters := [(.object "java/lang/Object")], returnType := none }, accessFlags := 2, code := some k15c1 }
def k15c2 : Code := { maxStack := 3, maxLocals := 1, code := jdk_32_method_3_code, exceptionTable := #[], attributes := #[] }
def k15m2 : Method := { name := "of", desc := "(Ljava/lang/Object;)Ljava/util/Optional;", sig := { parameters := [(.object "java/lang/Object")], returnType := some (.object "java/util/Optional") }, accessFlags := 9, code := some k15c2 }
def k15c3 : Code := { maxStack := 3, maxLocals := 1, code := jdk_32_method_5_code, exceptionTable := #[], attributes := #[] }
def k15m3 : Method := { name := "get", desc := "()Ljava/lang/Object;", sig := { parameters := [], returnType := some (.object "java/lang/Object") }, accessFlags := 1, code := some k15c3 }
def k15c4 : Code := { maxStack := 1, maxLocals := 1, code := jdk_32_method_6_code, exceptionTable := #[], attributes := #[] }
def k15m4 : Method := { name := "isPresent", desc := "()Z", sig := { parameters := [], returnType := some .boolean }, accessFlags := 1, code := some k15c4 }
/-- java/util/Optional -/
def k15 : Class := { plain "java/util/Optional" (some 0) with
  accessFlags := 49
  interfaces := #[]
  cf := some (fileOf pool15 2 #[] #[{ accessFlags := 9, nameIndex := 55, descriptorIndex := 56, attributes := #[] }, { accessFlags := 2, nameIndex := 11, descriptorIndex := 25, attributes := #[] }, { accessFlags := 9, nameIndex := 82, descriptorIndex := 65, attributes := #[] }, { accessFlags := 1, nameIndex := 73, descriptorIndex := 74, attributes := #[] }, { accessFlags := 1, nameIndex := 68, descriptorIndex := 46, attributes := #[] }] 49 8 #[] #[{ accessFlags := 26, nameIndex := 5, descriptorIndex := 6, attributes := #[] }, { accessFlags := 18, nameIndex := 15, descriptorIndex := 16, attributes := #[] }])
  fields := #[{ name := "EMPTY", type := (.object "java/util/Optional"), accessFlags := 26, slot := 0, constantValue := 0 }, { name := "value", type := (.object "java/lang/Object"), accessFlags := 18, slot := 0, constantValue := 0 }]
  methods := #[k15m0, k15m1, k15m2, k15m3, k15m4]
  instanceTypes := #[(.object "java/lang/Object")]
  staticTypes := #[(.object "java/util/Optional")]
  resolved := Array.replicate 187 none
  statics := some 2 }

def pool16 : Array CpInfo := pool [(2, .class_ 4), (1, u "com/example/picketline/picketline/protocol/Protocol"), (42, .class_ 48), (0, u "com/example/picketline/picketline/protocol/Protocol$2")] 11

/-- com/example/picketline/picketline/protocol/Protocol$2 -/
def k16 : Class := { plain "com/example/picketline/picketline/protocol/Protocol$2" (some 10) with
  accessFlags := 16432
  interfaces := #[]
  cf := some (fileOf pool16 47 #[.nestHost 2] #[] 16432 2 #[] #[])
  fields := #[]
  methods := #[]
  instanceTypes := #[(.object "java/lang/String"), .int, .int, (.object "java/lang/String"), .boolean]
  staticTypes := #[]
  resolved := Array.replicate 60 none
  statics := none }

def pool17 : Array CpInfo := pool [(2, .class_ 4), (1, u "java/lang/Object"), (0, u "<init>"), (0, u "()V"), (17, .class_ 26), (1, u "jdk/internal/util/Preconditions"), (28, .class_ 56), (0, u "jdk/internal/util/Preconditions$4"), (57, .class_ 115), (0, u "jdk/internal/util/Preconditions$1"), (7, u "SIOOBE_FORMATTER"), (0, u "Ljava/util/function/BiFunction;"), (0, .class_ 126), (0, u "jdk/internal/util/Preconditions$2"), (3, u "AIOOBE_FORMATTER"), (0, .class_ 132), (0, u "jdk/internal/util/Preconditions$3"), (3, u "IOOBE_FORMATTER")] 57

def k17m0 : Method := { name := "<init>", desc := "()V", sig := { parameters := [], returnType := none }, accessFlags := 1, code := none }
/-- jdk/internal/util/Preconditions -/
def k17 : Class := { plain "jdk/internal/util/Preconditions" (some 0) with
  accessFlags := 33
  interfaces := #[]
  cf := some (fileOf pool17 24 #[.nestMembers #[55, 131, 125, 114]] #[{ accessFlags := 1, nameIndex := 5, descriptorIndex := 6, attributes := #[] }] 33 2 #[] #[{ accessFlags := 25, nameIndex := 123, descriptorIndex := 124, attributes := #[] }, { accessFlags := 25, nameIndex := 130, descriptorIndex := 124, attributes := #[] }, { accessFlags := 25, nameIndex := 136, descriptorIndex := 124, attributes := #[] }])
  fields := #[{ name := "SIOOBE_FORMATTER", type := (.object "java/util/function/BiFunction"), accessFlags := 25, slot := 0, constantValue := 0 }, { name := "AIOOBE_FORMATTER", type := (.object "java/util/function/BiFunction"), accessFlags := 25, slot := 1, constantValue := 0 }, { name := "IOOBE_FORMATTER", type := (.object "java/util/function/BiFunction"), accessFlags := 25, slot := 2, constantValue := 0 }]
  methods := #[k17m0]
  instanceTypes := #[]
  staticTypes := #[(.object "java/util/function/BiFunction"), (.object "java/util/function/BiFunction"), (.object "java/util/function/BiFunction")]
  resolved := Array.replicate 194 none
  statics := some 3 }

def pool18 : Array CpInfo := pool [(9, u "<init>"), (6, .class_ 18), (1, u "java/lang/Object"), (0, u "()V"), (1, .class_ 23), (1, u "jdk/internal/util/ArraysSupport"), (0, u "LOG2_ARRAY_LONG_INDEX_SCALE"), (0, u "I"), (2, u "U"), (0, u "Ljdk/internal/misc/Unsafe;"), (8, u "BIG_ENDIAN"), (0, u "Z"), (8, u "LOG2_BYTE_BIT_SIZE"), (4, u "LOG2_ARRAY_INT_INDEX_SCALE"), (54, u "JLA"), (0, u "Ljdk/internal/access/JavaLangAccess;"), (11, u "LOG2_ARRAY_BOOLEAN_INDEX_SCALE"), (9, u "LOG2_ARRAY_BYTE_INDEX_SCALE"), (5, u "LOG2_ARRAY_CHAR_INDEX_SCALE"), (5, u "LOG2_ARRAY_SHORT_INDEX_SCALE"), (18, u "LOG2_ARRAY_FLOAT_INDEX_SCALE"), (24, u "LOG2_ARRAY_DOUBLE_INDEX_SCALE"), (89, u "T_BOOLEAN"), (2, u "T_CHAR"), (1, u "T_FLOAT"), (1, u "T_DOUBLE"), (1, u "T_BYTE"), (1, u "T_SHORT"), (1, u "T_INT"), (1, u "T_LONG"), (1, u "SOFT_MAX_ARRAY_LENGTH")] 83

def k18m0 : Method := { name := "<init>", desc := "()V", sig := { parameters := [], returnType := none }, accessFlags := 2, code := none }
/-- jdk/internal/util/ArraysSupport -/
def k18 : Class := { plain "jdk/internal/util/ArraysSupport" (some 0) with
  accessFlags := 33
  interfaces := #[]
  cf := some (fileOf pool18 21 #[] #[{ accessFlags := 2, nameIndex := 9, descriptorIndex := 19, attributes := #[] }] 33 16 #[] #[{ accessFlags := 24, nameIndex := 28, descriptorIndex := 29, attributes := #[] }, { accessFlags := 26, nameIndex := 38, descriptorIndex := 39, attributes := #[] }, { accessFlags := 25, nameIndex := 121, descriptorIndex := 25, attributes := #[] }, { accessFlags := 25, nameIndex := 131, descriptorIndex := 25, attributes := #[] }, { accessFlags := 25, nameIndex := 137, descriptorIndex := 25, attributes := #[] }, { accessFlags := 25, nameIndex := 143, descriptorIndex := 25, attributes := #[] }, { accessFlags := 25, nameIndex := 53, descriptorIndex := 25, attributes := #[] }, { accessFlags := 25, nameIndex := 24, descriptorIndex := 25, attributes := #[] }, { accessFlags := 25, nameIndex := 162, descriptorIndex := 25, attributes := #[] }, { accessFlags := 25, nameIndex := 187, descriptorIndex := 25, attributes := #[] }, { accessFlags := 26, nameIndex := 48, descriptorIndex := 25, attributes := #[] }, { accessFlags := 25, nameIndex := 277, descriptorIndex := 25, attributes := #[] }, { accessFlags := 25, nameIndex := 280, descriptorIndex := 25, attributes := #[] }, { accessFlags := 25, nameIndex := 282, descriptorIndex := 25, attributes := #[] }, { accessFlags := 25, nameIndex := 284, descriptorIndex := 25, attributes := #[] }, { accessFlags := 25, nameIndex := 286, descriptorIndex := 25, attributes := #[] }, { accessFlags := 25, nameIndex := 288, descriptorIndex := 25, attributes := #[] }, { accessFlags := 25, nameIndex := 290, descriptorIndex := 25, attributes := #[] }, { accessFlags := 25, nameIndex := 292, descriptorIndex := 25, attributes := #[] }, { accessFlags := 26, nameIndex := 108, descriptorIndex := 109, attributes := #[] }, { accessFlags := 25, nameIndex := 294, descriptorIndex := 25, attributes := #[] }])
  fields := #[{ name := "U", type := (.object "jdk/internal/misc/Unsafe"), accessFlags := 24, slot := 0, constantValue := 0 }, { name := "BIG_ENDIAN", type := .boolean, accessFlags := 26, slot := 1, constantValue := 0 }, { name := "LOG2_ARRAY_BOOLEAN_INDEX_SCALE", type := .int, accessFlags := 25, slot := 2, constantValue := 0 }, { name := "LOG2_ARRAY_BYTE_INDEX_SCALE", type := .int, accessFlags := 25, slot := 3, constantValue := 0 }, { name := "LOG2_ARRAY_CHAR_INDEX_SCALE", type := .int, accessFlags := 25, slot := 4, constantValue := 0 }, { name := "LOG2_ARRAY_SHORT_INDEX_SCALE", type := .int, accessFlags := 25, slot := 5, constantValue := 0 }, { name := "LOG2_ARRAY_INT_INDEX_SCALE", type := .int, accessFlags := 25, slot := 6, constantValue := 0 }, { name := "LOG2_ARRAY_LONG_INDEX_SCALE", type := .int, accessFlags := 25, slot := 7, constantValue := 0 }, { name := "LOG2_ARRAY_FLOAT_INDEX_SCALE", type := .int, accessFlags := 25, slot := 8, constantValue := 0 }, { name := "LOG2_ARRAY_DOUBLE_INDEX_SCALE", type := .int, accessFlags := 25, slot := 9, constantValue := 0 }, { name := "LOG2_BYTE_BIT_SIZE", type := .int, accessFlags := 26, slot := 10, constantValue := 0 }, { name := "T_BOOLEAN", type := .int, accessFlags := 25, slot := 11, constantValue := 0 }, { name := "T_CHAR", type := .int, accessFlags := 25, slot := 12, constantValue := 0 }, { name := "T_FLOAT", type := .int, accessFlags := 25, slot := 13, constantValue := 0 }, { name := "T_DOUBLE", type := .int, accessFlags := 25, slot := 14, constantValue := 0 }, { name := "T_BYTE", type := .int, accessFlags := 25, slot := 15, constantValue := 0 }, { name := "T_SHORT", type := .int, accessFlags := 25, slot := 16, constantValue := 0 }, { name := "T_INT", type := .int, accessFlags := 25, slot := 17, constantValue := 0 }, { name := "T_LONG", type := .int, accessFlags := 25, slot := 18, constantValue := 0 }, { name := "JLA", type := (.object "jdk/internal/access/JavaLangAccess"), accessFlags := 26, slot := 19, constantValue := 0 }, { name := "SOFT_MAX_ARRAY_LENGTH", type := .int, accessFlags := 25, slot := 20, constantValue := 0 }]
  methods := #[k18m0]
  instanceTypes := #[]
  staticTypes := #[(.object "jdk/internal/misc/Unsafe"), .boolean, .int, .int, .int, .int, .int, .int, .int, .int, .int, .int, .int, .int, .int, .int, .int, .int, .int, (.object "jdk/internal/access/JavaLangAccess"), .int]
  resolved := Array.replicate 378 none
  statics := none }

/-- the primitive byte -/
def k19 : Class := { plain "byte" none with kind := .primitive 'B', accessFlags := 0x411 }
/-- [B -/
def k20 : Class := { plain "[B" (some 0) with kind := .array 19 .byte, interfaces := #[12, 2], accessFlags := 1041 }

/-- the primitive char -/
def k21 : Class := { plain "char" none with kind := .primitive 'C', accessFlags := 0x411 }
/-- [C -/
def k22 : Class := { plain "[C" (some 0) with kind := .array 21 .char, interfaces := #[12, 2], accessFlags := 1041 }

/-- the primitive int -/
def k23 : Class := { plain "int" none with kind := .primitive 'I', accessFlags := 0x411 }
/-- [I -/
def k24 : Class := { plain "[I" (some 0) with kind := .array 23 .int, interfaces := #[12, 2], accessFlags := 1041 }

/-- [Lcom/example/picketline/picketline/protocol/Protocol; -/
def k25 : Class := { plain "[Lcom/example/picketline/picketline/protocol/Protocol;" (some 0) with kind := .array 10 (.object "com/example/picketline/picketline/protocol/Protocol"), interfaces := #[12, 2], accessFlags := 1041 }

def heap : Heap := #[{ cls := 7, slots := #[.long 0, .int 1, .null, .int 0, .null, .int 0, .int 0], vm := .statics 7 },
  { cls := 10, slots := #[.ref 5, .ref 6, .ref 4], vm := .statics 10 },
  { cls := 15, slots := #[.ref 11], vm := .statics 15 },
  { cls := 17, slots := #[.null, .null, .null], vm := .statics 17 },
  { cls := 25, slots := #[.ref 5, .ref 6], vm := .none },
  { cls := 13, slots := #[.null, .int 0, .int 0, .ref 7, .int 0], vm := .none },
  { cls := 16, slots := #[.null, .int 1, .int 0, .ref 8, .int 1], vm := .none },
  { cls := 7, slots := #[.ref 9, .int 0, .int 0, .int 0], vm := .none },
  { cls := 7, slots := #[.ref 10, .int 0, .int 0, .int 0], vm := .none },
  { cls := 20, slots := #[.int 111, .int 98, .int 108, .int 105, .int 118, .int 105, .int 111, .int 117, .int 115], vm := .none },
  { cls := 20, slots := #[.int 116, .int 119, .int 111, .int 45, .int 98, .int 105, .int 116], vm := .none },
  { cls := 15, slots := #[.null], vm := .none }]
def classes : Array Class := #[k0, k1, k2, k3, k4, k5, k6, k7, k8, k9, k10, k11, k12, k13, k14, k15, k16, k17, k18, k19, k20, k21, k22, k23, k24, k25]
def interned : List (Array UInt16 × Addr) := []
def slotsUsed : Nat := 51
def theMethod : MethodId := ⟨1, 1⟩
def args0 : Array Value := #[.int 5, .int 7, .int 9, .int 11, .int 13]
def aboutOver (below : List Frame) : State where
  vm := { classes := classes, interned := interned.toArray }
  heap := heap
  slotsUsed := slotsUsed
  threads := #[{ frames := .invoking theMethod args0 :: below }]
def below0 : List Frame := [.native { method := ⟨0, 0⟩, args := #[] }]
def about1 : State := aboutOver below0
def p0 : Program := .bare "" "" ""
def e0 : Env := launch0.env 0 0 0
theorem w_frames : about1.frames = Frame.invoking theMethod args0 :: below0 := rfl
set_option maxRecDepth 65536 in
theorem w_args : argsFit about1.vm theMethod args0 = true := by decide +kernel
set_option maxRecDepth 65536 in
theorem w_heap : heapFits about1 = true := by decide +kernel
set_option maxRecDepth 65536 in
theorem w_runnable : about1.curStatus? = some .runnable := by decide +kernel
set_option maxRecDepth 65536 in
theorem w_alone : about1.alone = true := by decide +kernel
set_option maxRecDepth 65536 in
theorem w_named : about1.methodNamed? x = some theMethod := by decide +kernel
set_option maxRecDepth 65536 in
theorem w_hears : about1.hears theMethod below0 = true := by decide +kernel
set_option maxRecDepth 65536 in
theorem w_ripe : about1.ripe theMethod args0 below0 = true := by decide +kernel
theorem w_running : about1.status = .running := rfl
set_option maxRecDepth 65536 in
theorem w_room : about1.hasRoom e0.platform room_1 = true :=
  launch0.hasRoom_least _ room_1 (by decide +kernel) (by decide +kernel) (by decide +kernel) (by decide +kernel) (by decide +kernel) (by decide +kernel)
theorem allAtoms_all (ts : List Jvm.Cond) (a : Array Jvm.Value) (st : Jvm.State) : (allAtoms ts).before a st = ts.all (fun c => c.before a st) := by
  induction ts with
  | nil => rfl
  | cons c t ih =>
    show (Jvm.Cond.and c (allAtoms t)).before a st = _
    rw [Jvm.Cond.before_and, ih, List.all_cons]
def words1 : List Jvm.Cond := Jvm.Cond.code x code maxLocals ret :: tables_1
/-- a 'code' word, met by the world's own term for the bytes: nothing is compared byte by byte -/
theorem code_word {y : MethodName} {bytes : ByteArray} {mx : Nat} {rt : Option FieldType} {a : Array Value} {s : State} {m : MethodId} {meth : Method} {c : Code} (h1 : s.methodNamed? y = some m) (h2 : s.vm.method? m = some meth) (h3 : meth.code = some c) (h4 : c.code = bytes)
    (h5 : (c.maxLocals == mx && c.exceptionTable.isEmpty && decide (c.maxStack ≤ mostOperands) && decide (meth.sig.returnType = rt) && !meth.locks && decide (parseMethodDescriptor y.desc = some meth.sig)) = true) : (Jvm.Cond.code y bytes mx rt).before a s = true := by
  simp only [Bool.and_eq_true, beq_iff_eq, Bool.not_eq_true', decide_eq_true_eq] at h5
  obtain ⟨⟨⟨⟨⟨g1, g2⟩, g3⟩, g4⟩, g5⟩, g6⟩ := h5
  simp [Cond.before, Cond.holds, Cond.value, h1, h2, h3, h4, g1, g2, g3, g4, g5, g6]
def isCode : Jvm.Cond → Bool
  | .code _ _ _ _ => true
  | _ => false
theorem all_split {L : List Jvm.Cond} {P : Jvm.Cond → Bool} (h1 : L.all (fun c => isCode c || P c) = true) (h2 : ∀ c ∈ L.filter isCode, P c = true) : L.all P = true := by
  refine List.all_eq_true.mpr fun c hc => ?_
  have h := List.all_eq_true.mp h1 c hc
  rcases Bool.eq_false_or_eq_true (isCode c) with hi | hi
  · exact h2 c (List.mem_filter.mpr ⟨hc, hi⟩)
  · simpa [hi] using h
set_option maxRecDepth 65536 in
theorem w_c0 : (Jvm.Cond.code x code maxLocals ret).before args0 about1 = true := code_word (m := ⟨1, 1⟩) (meth := k1m1) (c := k1c1) (by decide +kernel) rfl rfl rfl (by decide +kernel)
set_option maxRecDepth 65536 in
theorem w_c1 : (Jvm.Cond.code ({ cls := "com/example/picketline/picketline/protocol/ProtocolNamedPinLaw", name := "prefix", desc := "([CI)Ljava/lang/String;" } : Jvm.MethodName) method_3_code (2 : Nat) (Option.some (Jvm.ClassFile.FieldType.object "java/lang/String"))).before args0 about1 = true := code_word (m := ⟨1, 2⟩) (meth := k1m2) (c := k1c2) (by decide +kernel) rfl rfl rfl (by decide +kernel)
set_option maxRecDepth 65536 in
theorem w_c2 : (Jvm.Cond.code ({ cls := "java/lang/String", name := "<init>", desc := "([C)V" } : Jvm.MethodName) jdk_42_method_3_code (2 : Nat) (Option.none : Option Jvm.ClassFile.FieldType)).before args0 about1 = true := code_word (m := ⟨7, 1⟩) (meth := k7m1) (c := k7c1) (by decide +kernel) rfl rfl rfl (by decide +kernel)
set_option maxRecDepth 65536 in
theorem w_c3 : (Jvm.Cond.code ({ cls := "java/lang/String", name := "<init>", desc := "([CIILjava/lang/Void;)V" } : Jvm.MethodName) jdk_42_method_149_code (6 : Nat) (Option.none : Option Jvm.ClassFile.FieldType)).before args0 about1 = true := code_word (m := ⟨7, 3⟩) (meth := k7m3) (c := k7c3) (by decide +kernel) rfl rfl rfl (by decide +kernel)
set_option maxRecDepth 65536 in
theorem w_c4 : (Jvm.Cond.code ({ cls := "java/lang/Object", name := "<init>", desc := "()V" } : Jvm.MethodName) object_method_1_code (1 : Nat) (Option.none : Option Jvm.ClassFile.FieldType)).before args0 about1 = true := code_word (m := ⟨0, 0⟩) (meth := k0m0) (c := k0c0) (by decide +kernel) rfl rfl rfl (by decide +kernel)
set_option maxRecDepth 65536 in
theorem w_c5 : (Jvm.Cond.code ({ cls := "java/lang/StringUTF16", name := "compress", desc := "([CII)[B" } : Jvm.MethodName) jdk_52_method_16_code (6 : Nat) (Option.some (Jvm.ClassFile.FieldType.array Jvm.ClassFile.FieldType.byte))).before args0 about1 = true := code_word (m := ⟨8, 2⟩) (meth := k8m2) (c := k8c2) (by decide +kernel) rfl rfl rfl (by decide +kernel)
set_option maxRecDepth 65536 in
theorem w_c6 : (Jvm.Cond.code ({ cls := "java/lang/StringUTF16", name := "compress", desc := "([CI[BII)I" } : Jvm.MethodName) jdk_52_method_21_code (7 : Nat) (Option.some Jvm.ClassFile.FieldType.int)).before args0 about1 = true := code_word (m := ⟨8, 3⟩) (meth := k8m3) (c := k8c3) (by decide +kernel) rfl rfl rfl (by decide +kernel)
set_option maxRecDepth 65536 in
theorem w_c7 : (Jvm.Cond.code ({ cls := "java/lang/StringUTF16", name := "coderFromArrayLen", desc := "([BI)B" } : Jvm.MethodName) jdk_52_method_15_code (2 : Nat) (Option.some Jvm.ClassFile.FieldType.byte)).before args0 about1 = true := code_word (m := ⟨8, 1⟩) (meth := k8m1) (c := k8c1) (by decide +kernel) rfl rfl rfl (by decide +kernel)
set_option maxRecDepth 65536 in
theorem w_c8 : (Jvm.Cond.code ({ cls := "com/example/picketline/picketline/protocol/Protocol", name := "named", desc := "(Ljava/lang/String;)Ljava/util/Optional;" } : Jvm.MethodName) prog_34_method_4_code (5 : Nat) (Option.some (Jvm.ClassFile.FieldType.object "java/util/Optional"))).before args0 about1 = true := code_word (m := ⟨10, 1⟩) (meth := k10m1) (c := k10c1) (by decide +kernel) rfl rfl rfl (by decide +kernel)
set_option maxRecDepth 65536 in
theorem w_c9 : (Jvm.Cond.code ({ cls := "java/util/Objects", name := "requireNonNull", desc := "(Ljava/lang/Object;Ljava/lang/String;)Ljava/lang/Object;" } : Jvm.MethodName) jdk_31_method_11_code (2 : Nat) (Option.some (Jvm.ClassFile.FieldType.object "java/lang/Object"))).before args0 about1 = true := code_word (m := ⟨11, 2⟩) (meth := k11m2) (c := k11c2) (by decide +kernel) rfl rfl rfl (by decide +kernel)
set_option maxRecDepth 65536 in
theorem w_c10 : (Jvm.Cond.code ({ cls := "com/example/picketline/picketline/protocol/Protocol", name := "values", desc := "()[Lcom/example/picketline/picketline/protocol/Protocol;" } : Jvm.MethodName) prog_34_method_1_code (0 : Nat) (Option.some (Jvm.ClassFile.FieldType.array (Jvm.ClassFile.FieldType.object "com/example/picketline/picketline/protocol/Protocol")))).before args0 about1 = true := code_word (m := ⟨10, 0⟩) (meth := k10m0) (c := k10c0) (by decide +kernel) rfl rfl rfl (by decide +kernel)
set_option maxRecDepth 65536 in
theorem w_c11 : (Jvm.Cond.code ({ cls := "java/lang/String", name := "equals", desc := "(Ljava/lang/Object;)Z" } : Jvm.MethodName) jdk_42_method_66_code (3 : Nat) (Option.some Jvm.ClassFile.FieldType.boolean)).before args0 about1 = true := code_word (m := ⟨7, 2⟩) (meth := k7m2) (c := k7c2) (by decide +kernel) rfl rfl rfl (by decide +kernel)
set_option maxRecDepth 65536 in
theorem w_c12 : (Jvm.Cond.code ({ cls := "java/lang/StringLatin1", name := "equals", desc := "([B[B)Z" } : Jvm.MethodName) jdk_43_method_13_code (3 : Nat) (Option.some Jvm.ClassFile.FieldType.boolean)).before args0 about1 = true := code_word (m := ⟨14, 1⟩) (meth := k14m1) (c := k14c1) (by decide +kernel) rfl rfl rfl (by decide +kernel)
set_option maxRecDepth 65536 in
theorem w_c13 : (Jvm.Cond.code ({ cls := "java/util/Optional", name := "of", desc := "(Ljava/lang/Object;)Ljava/util/Optional;" } : Jvm.MethodName) jdk_32_method_3_code (1 : Nat) (Option.some (Jvm.ClassFile.FieldType.object "java/util/Optional"))).before args0 about1 = true := code_word (m := ⟨15, 2⟩) (meth := k15m2) (c := k15c2) (by decide +kernel) rfl rfl rfl (by decide +kernel)
set_option maxRecDepth 65536 in
theorem w_c14 : (Jvm.Cond.code ({ cls := "java/util/Objects", name := "requireNonNull", desc := "(Ljava/lang/Object;)Ljava/lang/Object;" } : Jvm.MethodName) jdk_31_method_10_code (1 : Nat) (Option.some (Jvm.ClassFile.FieldType.object "java/lang/Object"))).before args0 about1 = true := code_word (m := ⟨11, 1⟩) (meth := k11m1) (c := k11c1) (by decide +kernel) rfl rfl rfl (by decide +kernel)
set_option maxRecDepth 65536 in
theorem w_c15 : (Jvm.Cond.code ({ cls := "java/util/Optional", name := "<init>", desc := "(Ljava/lang/Object;)V" } : Jvm.MethodName) jdk_32_method_2_code (2 : Nat) (Option.none : Option Jvm.ClassFile.FieldType)).before args0 about1 = true := code_word (m := ⟨15, 1⟩) (meth := k15m1) (c := k15c1) (by decide +kernel) rfl rfl rfl (by decide +kernel)
set_option maxRecDepth 65536 in
theorem w_c16 : (Jvm.Cond.code ({ cls := "java/util/Optional", name := "isPresent", desc := "()Z" } : Jvm.MethodName) jdk_32_method_6_code (1 : Nat) (Option.some Jvm.ClassFile.FieldType.boolean)).before args0 about1 = true := code_word (m := ⟨15, 4⟩) (meth := k15m4) (c := k15c4) (by decide +kernel) rfl rfl rfl (by decide +kernel)
set_option maxRecDepth 65536 in
theorem w_c17 : (Jvm.Cond.code ({ cls := "java/util/Optional", name := "get", desc := "()Ljava/lang/Object;" } : Jvm.MethodName) jdk_32_method_5_code (1 : Nat) (Option.some (Jvm.ClassFile.FieldType.object "java/lang/Object"))).before args0 about1 = true := code_word (m := ⟨15, 3⟩) (meth := k15m3) (c := k15c3) (by decide +kernel) rfl rfl rfl (by decide +kernel)
set_option maxRecDepth 65536 in
theorem w_c18 : (Jvm.Cond.code ({ cls := "java/util/Optional", name := "empty", desc := "()Ljava/util/Optional;" } : Jvm.MethodName) jdk_32_method_1_code (1 : Nat) (Option.some (Jvm.ClassFile.FieldType.object "java/util/Optional"))).before args0 about1 = true := code_word (m := ⟨15, 0⟩) (meth := k15m0) (c := k15c0) (by decide +kernel) rfl rfl rfl (by decide +kernel)
def codes1 : List Jvm.Cond := [Jvm.Cond.code x code maxLocals ret, Jvm.Cond.code ({ cls := "com/example/picketline/picketline/protocol/ProtocolNamedPinLaw", name := "prefix", desc := "([CI)Ljava/lang/String;" } : Jvm.MethodName) method_3_code (2 : Nat) (Option.some (Jvm.ClassFile.FieldType.object "java/lang/String")), Jvm.Cond.code ({ cls := "java/lang/String", name := "<init>", desc := "([C)V" } : Jvm.MethodName) jdk_42_method_3_code (2 : Nat) (Option.none : Option Jvm.ClassFile.FieldType), Jvm.Cond.code ({ cls := "java/lang/String", name := "<init>", desc := "([CIILjava/lang/Void;)V" } : Jvm.MethodName) jdk_42_method_149_code (6 : Nat) (Option.none : Option Jvm.ClassFile.FieldType), Jvm.Cond.code ({ cls := "java/lang/Object", name := "<init>", desc := "()V" } : Jvm.MethodName) object_method_1_code (1 : Nat) (Option.none : Option Jvm.ClassFile.FieldType), Jvm.Cond.code ({ cls := "java/lang/StringUTF16", name := "compress", desc := "([CII)[B" } : Jvm.MethodName) jdk_52_method_16_code (6 : Nat) (Option.some (Jvm.ClassFile.FieldType.array Jvm.ClassFile.FieldType.byte)), Jvm.Cond.code ({ cls := "java/lang/StringUTF16", name := "compress", desc := "([CI[BII)I" } : Jvm.MethodName) jdk_52_method_21_code (7 : Nat) (Option.some Jvm.ClassFile.FieldType.int), Jvm.Cond.code ({ cls := "java/lang/StringUTF16", name := "coderFromArrayLen", desc := "([BI)B" } : Jvm.MethodName) jdk_52_method_15_code (2 : Nat) (Option.some Jvm.ClassFile.FieldType.byte), Jvm.Cond.code ({ cls := "com/example/picketline/picketline/protocol/Protocol", name := "named", desc := "(Ljava/lang/String;)Ljava/util/Optional;" } : Jvm.MethodName) prog_34_method_4_code (5 : Nat) (Option.some (Jvm.ClassFile.FieldType.object "java/util/Optional")), Jvm.Cond.code ({ cls := "java/util/Objects", name := "requireNonNull", desc := "(Ljava/lang/Object;Ljava/lang/String;)Ljava/lang/Object;" } : Jvm.MethodName) jdk_31_method_11_code (2 : Nat) (Option.some (Jvm.ClassFile.FieldType.object "java/lang/Object")), Jvm.Cond.code ({ cls := "com/example/picketline/picketline/protocol/Protocol", name := "values", desc := "()[Lcom/example/picketline/picketline/protocol/Protocol;" } : Jvm.MethodName) prog_34_method_1_code (0 : Nat) (Option.some (Jvm.ClassFile.FieldType.array (Jvm.ClassFile.FieldType.object "com/example/picketline/picketline/protocol/Protocol"))), Jvm.Cond.code ({ cls := "java/lang/String", name := "equals", desc := "(Ljava/lang/Object;)Z" } : Jvm.MethodName) jdk_42_method_66_code (3 : Nat) (Option.some Jvm.ClassFile.FieldType.boolean), Jvm.Cond.code ({ cls := "java/lang/StringLatin1", name := "equals", desc := "([B[B)Z" } : Jvm.MethodName) jdk_43_method_13_code (3 : Nat) (Option.some Jvm.ClassFile.FieldType.boolean), Jvm.Cond.code ({ cls := "java/util/Optional", name := "of", desc := "(Ljava/lang/Object;)Ljava/util/Optional;" } : Jvm.MethodName) jdk_32_method_3_code (1 : Nat) (Option.some (Jvm.ClassFile.FieldType.object "java/util/Optional")), Jvm.Cond.code ({ cls := "java/util/Objects", name := "requireNonNull", desc := "(Ljava/lang/Object;)Ljava/lang/Object;" } : Jvm.MethodName) jdk_31_method_10_code (1 : Nat) (Option.some (Jvm.ClassFile.FieldType.object "java/lang/Object")), Jvm.Cond.code ({ cls := "java/util/Optional", name := "<init>", desc := "(Ljava/lang/Object;)V" } : Jvm.MethodName) jdk_32_method_2_code (2 : Nat) (Option.none : Option Jvm.ClassFile.FieldType), Jvm.Cond.code ({ cls := "java/util/Optional", name := "isPresent", desc := "()Z" } : Jvm.MethodName) jdk_32_method_6_code (1 : Nat) (Option.some Jvm.ClassFile.FieldType.boolean), Jvm.Cond.code ({ cls := "java/util/Optional", name := "get", desc := "()Ljava/lang/Object;" } : Jvm.MethodName) jdk_32_method_5_code (1 : Nat) (Option.some (Jvm.ClassFile.FieldType.object "java/lang/Object")), Jvm.Cond.code ({ cls := "java/util/Optional", name := "empty", desc := "()Ljava/util/Optional;" } : Jvm.MethodName) jdk_32_method_1_code (1 : Nat) (Option.some (Jvm.ClassFile.FieldType.object "java/util/Optional"))]
set_option maxRecDepth 65536 in
theorem codes_eq : words1.filter isCode = codes1 := rfl
theorem w_codes : ∀ c ∈ words1.filter isCode, c.before args0 about1 = true := by
  rw [codes_eq]
  intro c hc
  simp only [codes1, List.mem_cons, List.not_mem_nil, or_false] at hc
  rcases hc with rfl | rfl | rfl | rfl | rfl | rfl | rfl | rfl | rfl | rfl | rfl | rfl | rfl | rfl | rfl | rfl | rfl | rfl | rfl
  · exact w_c0
  · exact w_c1
  · exact w_c2
  · exact w_c3
  · exact w_c4
  · exact w_c5
  · exact w_c6
  · exact w_c7
  · exact w_c8
  · exact w_c9
  · exact w_c10
  · exact w_c11
  · exact w_c12
  · exact w_c13
  · exact w_c14
  · exact w_c15
  · exact w_c16
  · exact w_c17
  · exact w_c18
set_option maxRecDepth 65536 in
theorem w_t1 : (words1.take 24).all (fun c => isCode c || c.before args0 about1) = true := by decide +kernel
set_option maxRecDepth 65536 in
theorem w_t2 : ((words1.drop 24).take 24).all (fun c => isCode c || c.before args0 about1) = true := by decide +kernel
set_option maxRecDepth 65536 in
theorem w_t3 : (((words1.drop 24).drop 24).take 24).all (fun c => isCode c || c.before args0 about1) = true := by decide +kernel
set_option maxRecDepth 65536 in
theorem w_t4 : ((((words1.drop 24).drop 24).drop 24).take 24).all (fun c => isCode c || c.before args0 about1) = true := by decide +kernel
set_option maxRecDepth 65536 in
theorem w_t5 : ((((words1.drop 24).drop 24).drop 24).drop 24).all (fun c => isCode c || c.before args0 about1) = true := by decide +kernel
theorem w_tables : (allAtoms (Jvm.Cond.code x code maxLocals ret :: tables_1)).before args0 about1 = true := by
  rw [allAtoms_all]
  show words1.all (fun c => c.before args0 about1) = true
  refine all_split ?_ w_codes
  rw [← List.take_append_drop 24 words1, List.all_append, w_t1, ← List.take_append_drop 24 (words1.drop 24), List.all_append, w_t2, ← List.take_append_drop 24 ((words1.drop 24).drop 24), List.all_append, w_t3, ← List.take_append_drop 24 (((words1.drop 24).drop 24).drop 24), List.all_append, w_t4, w_t5]
  rfl
set_option maxRecDepth 65536 in
theorem w_rest : rest_1_c.before args0 about1 = true := by decide +kernel
set_option maxRecDepth 65536 in
theorem w_case : (Jvm.Cond.and given_1 narrow_1).before args0 about1 = true := by decide +kernel
set_option maxRecDepth 65536 in
theorem w_consts : constsHeld consts_1 about1 := Jvm.Lit.constsHeldB_iff.mp (by decide +kernel)
theorem w_applies : (headSpec (Jvm.Cond.code x code maxLocals ret :: tables_1) room_1).applies x e0.platform about1 = true :=
  (Spec.applies_iff w_frames).mpr ⟨w_running, w_runnable, w_alone, w_named, w_hears, w_ripe, w_room, w_tables⟩
theorem atStart : AtStart classFile x code maxLocals ret World_1 tables_1 room_1 Calls_1 rest_1 Pre_1 launch0 p0 e0 about1 theMethod args0 below0 :=
  ⟨lists_1, trivial, launch0.admits_env _ _ _, launch0.least_env, fairChoices_fair.cas, fairChoices_fair.clock, w_frames, w_args, w_heap, w_applies, ⟨w_consts, trivial⟩, w_rest, w_case⟩
end start1
theorem witness_1 : WitnessClaimed_1 := ⟨start1.p0, start1.e0, start1.about1, start1.theMethod, start1.args0, start1.below0, start1.atStart⟩
end Jvm.Pilot.@@N@@
