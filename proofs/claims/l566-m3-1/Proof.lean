import JvmDerived
import JvmDerived.Pilot.@@N@@Statement
import JvmDerived.Pilot.@@N@@Code
set_option linter.unusedVariables false
set_option linter.unusedSimpArgs false

namespace Jvm.Pilot.@@N@@
open Jvm Jvm.ClassFile Sem Op Lib Jvm.Free Jvm.Stand Jvm.LawKit Jvm.RoadKit Bundle Jvm.Pilot.@@N@@.Jvm.D
abbrev HW (a0 : Array Value) (Z : State) : Prop := ∀ d ∈ tables_1, d.before a0 Z = true
abbrev MF (l : Launch) (Z : State) (y : MethodName) (b : ByteArray) (ml : Nat) (rt : Option FieldType) (ws : List Jvm.Cond) (rm : Room) (A : Array Value) (h0 : Heap) (Q : Option Value → Heap → List Loc → Prop) : Prop := MetFree l y (head1 (Jvm.Cond.code y b ml rt :: ws) rm) (fun a U => a = A ∧ Z.Warmed39 U.vm ∧ U.heap = h0) (fun _ _ _ _ _ => True) (fun _ U o U' => ∃ v L, o = .returned v ∧ Q v U'.heap L ∧ FrameEnd U o U' L rm.cells rm.slots)
/-- the end of a walk -/
theorem fin1 {p : Program} {l : Launch} {e : Env} {R : Room} {s : State} {m : MethodId} {args : Array Value} {bl : List Frame} {meth : Method} {c : Code} {T : State} {locs : List Loc} {cells slots : Nat} (X : Stand p l e R s m args bl meth c T locs cells slots) {v : Option Value} (hv : meth.sig.returnType = none → v = none) (hlk : meth.locks = false) {g : JFrame} {s1 : State} {C D : Nat} {Q : Option Value → Heap → List Loc → Prop} (hc : cells ≤ C) (hd : slots ≤ D) (hQ : Q v T.heap locs)
    (hs : ∀ fs, (∀ (f : JFrame) (acts : List Action), f.method = m → f.locked = none → f.entered = [] → (doReturn e (T.setTop f) acts v).1 = T.setFrames fs) → Steps p.tables e bl (s1.setTop g) (T.setFrames fs)) : ∃ s₂ o, Steps p.tables e bl (s1.setTop g) s₂ ∧ s₂.status = .running ∧ Ended s₂ bl o ∧ ∃ v L, o = .returned v ∧ Q v s₂.heap L ∧ FrameEnd s o s₂ L C D := by
  obtain ⟨fs, hr, hrun, hended, hW, hsame⟩ := X.leave hv hlk
  exact ⟨_, _, hs fs hr, hrun, hended, _, _, rfl, hQ, ⟨_, rfl⟩, hW, hsame.mono hc hd⟩
theorem wl {a b : Nat} (h : Nat.ble a b = true) : a ≤ b := Nat.le_of_ble_eq_true h
theorem mW (i : Nat) {d : Jvm.Cond} (h : tables_1[i]? = some d) : d ∈ tables_1 := List.mem_of_getElem? h
/-- from the frame g' at S' the run comes to the frame g at S -/
abbrev Go (p : Program) (e : Env) (below : List Frame) (S : State) (g : JFrame) (S' : State) (g' : JFrame) : Prop := ∀ t, Steps p.tables e below (S.setTop g) t → Steps p.tables e below (S'.setTop g') t

abbrev mN0 : MethodName := ⟨"java/lang/String", "coder", "()B"⟩
abbrev mN1 : MethodName := ⟨"java/lang/String", "length", "()I"⟩
abbrev mN2 : MethodName := ⟨"java/lang/String", "isLatin1", "()Z"⟩
abbrev mN3 : MethodName := ⟨"jdk/internal/util/Preconditions", "checkIndex", "(IILjava/util/function/BiFunction;)I"⟩
abbrev mN4 : MethodName := ⟨"java/lang/String", "checkIndex", "(II)V"⟩
abbrev mN5 : MethodName := ⟨"java/lang/StringLatin1", "charAt", "([BI)C"⟩
abbrev mN6 : MethodName := ⟨"java/lang/StringUTF16", "length", "([B)I"⟩
abbrev mN7 : MethodName := ⟨"java/lang/StringUTF16", "checkIndex", "(I[B)V"⟩
abbrev mN8 : MethodName := ⟨"java/lang/StringUTF16", "getChar", "([BI)C"⟩
abbrev mN9 : MethodName := ⟨"java/lang/StringUTF16", "charAt", "([BI)C"⟩
abbrev mN10 : MethodName := ⟨"java/lang/String", "charAt", "(I)C"⟩
abbrev mN11 : MethodName := ⟨"java/lang/StringUTF16", "compress", "([CI[BII)I"⟩
abbrev mN12 : MethodName := ⟨"java/lang/StringUTF16", "newBytesLength", "(I)I"⟩
abbrev mN13 : MethodName := ⟨"java/lang/StringUTF16", "newBytesFor", "(I)[B"⟩
abbrev mN14 : MethodName := ⟨"java/lang/StringUTF16", "putChar", "([BII)V"⟩
abbrev mN15 : MethodName := ⟨"java/lang/StringUTF16", "toBytes", "([CII)[B"⟩
abbrev mN16 : MethodName := ⟨"java/lang/StringUTF16", "compress", "([CII)[B"⟩
abbrev mN17 : MethodName := ⟨"java/lang/StringUTF16", "coderFromArrayLen", "([BI)B"⟩
abbrev mN18 : MethodName := ⟨"java/lang/String", "<init>", "([CIILjava/lang/Void;)V"⟩
abbrev mN19 : MethodName := ⟨"java/lang/String", "<init>", "([C)V"⟩
abbrev mN20 : MethodName := ⟨"com/example/oxpecker/oxpecker/http/HttpInput", "isToken", "(I)Z"⟩
abbrev mN21 : MethodName := ⟨"com/example/oxpecker/oxpecker/http/HttpInputTokenEndPinLaw", "tchar", "(C)Z"⟩
abbrev mN22 : MethodName := ⟨"com/example/oxpecker/oxpecker/http/HttpInputTokenEndPinLaw", "build", "(ICCCC)Ljava/lang/String;"⟩
abbrev mN23 : MethodName := ⟨"com/example/oxpecker/oxpecker/http/HttpInput", "tokenEnd", "(Ljava/lang/String;I)I"⟩
theorem own_fld {args : Array Value} {s : State} {t : Term} {x : Addr} {C n d : String} {k : Int32} (ht : t.eval args s none [] s = some (.ref x)) (h : (Jvm.Cond.eq (.field t C n d) (.int k)).value args s none s [] = some true) : Fld s s.heap x C n d (.int k) := by
  obtain ⟨y, z, h1, h2, h3, -⟩ := cmp_v (Or.inl h)
  have h2' : z = .int k := by simpa [Term.eval] using h2.symm
  subst h2'
  obtain ⟨u, rfl⟩ : ∃ u, y = .int u := by cases y <;> simp [Kin, Value.isRef] at h3 ⊢
  have h4 : u = k := by simpa [Jvm.Cond.value, h1, h2] using h
  subst h4
  exact Fld.start ((fld_at ht).symm.trans h1)

theorem own_m5 (x : Int32) : (x &&& 2147483647) % 5 = 0 ∨ (x &&& 2147483647) % 5 = 1 ∨ (x &&& 2147483647) % 5 = 2 ∨ (x &&& 2147483647) % 5 = 3 ∨ (x &&& 2147483647) % 5 = 4 := by
  have h1 := c_mask x 2147483647 31 (by decide) (by decide)
  have h2 := (c_irem (x &&& 2147483647) 5 5 (by decide)).1 (by omega)
  generalize (x &&& 2147483647) % 5 = k at h2 ⊢
  have e0 : (0 : Int32).toInt = 0 := by decide
  have e1 : (1 : Int32).toInt = 1 := by decide
  have e2 : (2 : Int32).toInt = 2 := by decide
  have e3 : (3 : Int32).toInt = 3 := by decide
  have e4 : (4 : Int32).toInt = 4 := by decide
  simp only [← Int32.toInt_inj, e0, e1, e2, e3, e4]
  omega

theorem own_m6 (x : Int32) : (x &&& 2147483647) % 6 = 0 ∨ (x &&& 2147483647) % 6 = 1 ∨ (x &&& 2147483647) % 6 = 2 ∨ (x &&& 2147483647) % 6 = 3 ∨ (x &&& 2147483647) % 6 = 4 ∨ (x &&& 2147483647) % 6 = 5 := by
  have h1 := c_mask x 2147483647 31 (by decide) (by decide)
  have h2 := (c_irem (x &&& 2147483647) 6 6 (by decide)).1 (by omega)
  generalize (x &&& 2147483647) % 6 = k at h2 ⊢
  have e0 : (0 : Int32).toInt = 0 := by decide
  have e1 : (1 : Int32).toInt = 1 := by decide
  have e2 : (2 : Int32).toInt = 2 := by decide
  have e3 : (3 : Int32).toInt = 3 := by decide
  have e4 : (4 : Int32).toInt = 4 := by decide
  have e5 : (5 : Int32).toInt = 5 := by decide
  simp only [← Int32.toInt_inj, e0, e1, e2, e3, e4, e5]
  omega

section Tab
variable {args : Array Value} {s : State} {t : Term} {a : Addr} {cl : Cell}
theorem own_elv (T : Tab s s.heap a cl .boolean 128) (hst : ∀ idx, t.eval args s none idx s = some (.ref a)) (hal : s.arrayAt? a = some cl) {u : Term} {idx : List Nat} {j : Int32} (hu : u.eval args s none idx s = some (.int j)) (hj : ¬ (j < 0 ∨ cl.slots.size ≤ j.toNatClampNeg)) : (Term.elem t u).eval args s none idx s = some (.int (atv cl j)) :=
  (elem_f (hst idx) hu hal (fun q => hj (Or.inl q))).trans (T.2.2.2 j hj)
theorem own_all2 (T : Tab s s.heap a cl .boolean 128) (hst : ∀ idx, t.eval args s none idx s = some (.ref a)) (hal : s.arrayAt? a = some cl) {b v : Int32} (h : (Jvm.Cond.all t (.or (.le (.int b) (.index 0)) (.eq (.elem t (.index 0)) (.int v)))).value args s none s [] = some true) (j : Int32) (hj : ¬ (j < 0 ∨ cl.slots.size ≤ j.toNatClampNeg)) : b ≤ j ∨ atv cl j = v := by
  have q := Cond.all_elim (hst []) hal h j.toNatClampNeg (Nat.lt_of_not_le fun y => hj (Or.inr y))
  have hi := idx_at (args := args) (first := s) (o := none) (s := s) (j := j) (fun y => hj (Or.inl y))
  exact or_e2 (Cond.le_ints (Term.int_eval b) hi) (Cond.eq_ints (own_elv T hst hal hi hj) (Term.int_eval v)) q
theorem own_all3 (T : Tab s s.heap a cl .boolean 128) (hst : ∀ idx, t.eval args s none idx s = some (.ref a)) (hal : s.arrayAt? a = some cl) {b c v : Int32} (h : (Jvm.Cond.all t (.or (.lt (.index 0) (.int b)) (.or (.le (.int c) (.index 0)) (.eq (.elem t (.index 0)) (.int v))))).value args s none s [] = some true) (j : Int32) (hj : ¬ (j < 0 ∨ cl.slots.size ≤ j.toNatClampNeg)) : j < b ∨ ¬ j < c ∨ atv cl j = v := by
  have q := Cond.all_elim (hst []) hal h j.toNatClampNeg (Nat.lt_of_not_le fun y => hj (Or.inr y))
  have hi := idx_at (args := args) (first := s) (o := none) (s := s) (j := j) (fun y => hj (Or.inl y))
  exact or3 q (Cond.lt_ints hi (Term.int_eval b)) (Cond.le_ints (Term.int_eval c) hi) (Cond.eq_ints (own_elv T hst hal hi hj) (Term.int_eval v))
theorem own_one (T : Tab s s.heap a cl .boolean 128) (hst : ∀ idx, t.eval args s none idx s = some (.ref a)) (hal : s.arrayAt? a = some cl) {k v : Int32} (hj : ¬ (k < 0 ∨ cl.slots.size ≤ k.toNatClampNeg)) (h : (Jvm.Cond.eq (.elem t (.int k)) (.int v)).value args s none s [] = some true) : atv cl k = v :=
  gotT (Cond.eq_ints (own_elv T hst hal (Term.int_eval k) hj) (Term.int_eval v)) h
end Tab
theorem own_fitc {c : Int32} (h : nar .char c = c) : fits .char (.int c) = true := by have q := fits_nar_char c; rwa [h] at q
theorem own_i2b2 (x : Int32) : nar .byte x.toInt8.toInt32 = x.toInt8.toInt32 := by
  show x.toInt8.toInt32.toInt8.toInt32 = x.toInt8.toInt32
  rw [Int8.toInt8_toInt32]
theorem own_nc {c : Int32} (h1 : 0 ≤ c.toInt) (h2 : c.toInt < 65536) : nar .char c = c := by
  show c.toUInt32.toUInt16.toUInt32.toInt32 = c
  have q := c_i2c c
  rw [← Int32.toInt_inj]; omega
/-- the chars that a String spells: one byte each, or two -/
def LatV (cs : List Int32) : List Value := cs.map fun c => .int c.toInt8.toInt32
def lo8 (c : Int32) : Int32 := (c >>> ((0 : Int32) &&& 31)).toInt8.toInt32
def hi8 (c : Int32) : Int32 := (c >>> ((8 : Int32) &&& 31)).toInt8.toInt32
def WidV : List Int32 → List Value
  | [] => []
  | c :: cs => .int (lo8 c) :: .int (hi8 c) :: WidV cs
def Str (Z : State) (h : Heap) (a : Addr) (cs : List Int32) : Prop := ∃ (cd : Int32) (b : Addr) (k : ClassId) (z : Int32) (vs : List Value), Exa Z h a "java/lang/String" ∧ Fld Z h a "java/lang/String" "coder" "B" (.int cd) ∧ Fld Z h a "java/lang/String" "value" "[B" (.ref b) ∧ Arv Z h b k .byte z vs (.int 0) ∧ cs.length ≤ 4000 ∧
  ((cd = 0 ∧ z.toInt = cs.length ∧ vs = LatV cs ∧ ∀ c ∈ cs, 0 ≤ c.toInt ∧ c.toInt < 256) ∨ (cd = 1 ∧ z.toInt = 2 * cs.length ∧ vs = WidV cs ∧ ∀ c ∈ cs, 0 ≤ c.toInt ∧ c.toInt < 65536))
theorem Str.exa {Z : State} {h : Heap} {a : Addr} {cs : List Int32} (S : Str Z h a cs) : Exa Z h a "java/lang/String" := by obtain ⟨_, _, _, _, _, E, -⟩ := S; exact E
theorem own_lat {c : Int32} (h1 : 0 ≤ c.toInt) (h2 : c.toInt < 256) : c.toInt8.toInt32 &&& 255 = c := by
  have q := c_mask c.toInt8.toInt32 255 8 (by decide) (by decide)
  have q2 := c_i2b c
  rw [← Int32.toInt_inj, q]
  have e : ((2 ^ 8 : Nat) : Int) = 256 := by decide
  rw [e]; omega
theorem own_lat_at {cs : List Int32} {i : Nat} {c : Int32} (h : cs[i]? = some c) : (LatV cs).getD i (.int 0) = .int c.toInt8.toInt32 := by
  simp [LatV, List.getD, h]
theorem own_wid_at : ∀ {cs : List Int32} {i : Nat} {c : Int32}, cs[i]? = some c → (WidV cs).getD (2 * i) (.int 0) = .int (lo8 c) ∧ (WidV cs).getD (2 * i + 1) (.int 0) = .int (hi8 c)
  | [], i, c, h => by simp at h
  | x :: xs, 0, c, h => by simp at h; subst h; exact ⟨rfl, rfl⟩
  | x :: xs, i + 1, c, h => by
    have q := own_wid_at (cs := xs) (i := i) (c := c) (by simpa using h)
    have e1 : 2 * (i + 1) = 2 * i + 1 + 1 := by omega
    have e2 : 2 * (i + 1) + 1 = 2 * i + 1 + 1 + 1 := by omega
    rw [e1]
    exact q
theorem own_get {c : Int32} (h1 : 0 ≤ c.toInt) (h2 : c.toInt < 65536) : ((((lo8 c &&& 255) <<< ((0 : Int32) &&& 31)) ||| ((hi8 c &&& 255) <<< ((8 : Int32) &&& 31))).toUInt32.toUInt16.toUInt32.toInt32) = c := by
  have a0 := c_ishr c 0 0 (by decide)
  have a8 := c_ishr c 8 8 (by decide)
  have b0 := c_mask (lo8 c) 255 8 (by decide) (by decide)
  have b8 := c_mask (hi8 c) 255 8 (by decide) (by decide)
  have d0 := c_i2b (c >>> ((0 : Int32) &&& 31))
  have d8 := c_i2b (c >>> ((8 : Int32) &&& 31))
  have e0 := c_ishl (lo8 c &&& 255) 0 0 (by decide)
  have e8 := c_ishl (hi8 c &&& 255) 8 8 (by decide)
  have w0 := rng32 ((lo8 c &&& 255) <<< ((0 : Int32) &&& 31))
  have w8 := rng32 ((hi8 c &&& 255) <<< ((8 : Int32) &&& 31))
  have p0 : ((2 ^ 0 : Nat) : Int) = 1 := by decide
  have p8 : ((2 ^ 8 : Nat) : Int) = 256 := by decide
  rw [p0] at a0 e0
  rw [p8] at a8 b0 b8 e8
  have f : (lo8 c) = (c >>> ((0 : Int32) &&& 31)).toInt8.toInt32 := rfl
  have g : (hi8 c) = (c >>> ((8 : Int32) &&& 31)).toInt8.toInt32 := rfl
  rw [← f] at d0
  rw [← g] at d8
  have o := c_or' ((lo8 c &&& 255) <<< ((0 : Int32) &&& 31)) ((hi8 c &&& 255) <<< ((8 : Int32) &&& 31)) 8 (by decide) 256 (by decide) (by omega) (by omega) (by omega)
  have w := rng32 (((lo8 c &&& 255) <<< ((0 : Int32) &&& 31)) ||| ((hi8 c &&& 255) <<< ((8 : Int32) &&& 31)))
  generalize (((lo8 c &&& 255) <<< ((0 : Int32) &&& 31)) ||| ((hi8 c &&& 255) <<< ((8 : Int32) &&& 31))) = x at o w ⊢
  have q := c_i2c x
  rw [← Int32.toInt_inj]; omega

theorem mJ (i : Nat) {d : Jvm.Cond} (h : jdkStatics_1[i]? = some d) : d ∈ jdkStatics_1 := List.mem_of_getElem? h
def Jd (Z : State) (cz : Int32) (fv : Value) : Prop := Sta Z Z.heap "java/lang/String" "COMPACT_STRINGS" "Z" (.int cz) ∧ cz ≠ 0 ∧ (fv.isRef = true ∧ Sta Z Z.heap "jdk/internal/util/Preconditions" "SIOOBE_FORMATTER" "Ljava/util/function/BiFunction;" fv) ∧ Sta Z Z.heap "java/lang/StringUTF16" "$assertionsDisabled" "Z" (.int 1) ∧ Sta Z Z.heap "java/lang/StringUTF16" "HI_BYTE_SHIFT" "I" (.int 0) ∧ Sta Z Z.heap "java/lang/StringUTF16" "LO_BYTE_SHIFT" "I" (.int 8) ∧ True
abbrev rKJco : Room := { frames := 0, cells := 0, slots := 0, locals := 0 }
theorem d0_0 : decode jdk_42_method_152_code 0 = .ok (.getstatic 38, 3) := by decide +kernel
theorem d0_3 : decode jdk_42_method_152_code 3 = .ok (.ifCond .eq 10, 3) := by decide +kernel
theorem d0_6 : decode jdk_42_method_152_code 6 = .ok (.aload_n 0, 1) := by decide +kernel
theorem d0_7 : decode jdk_42_method_152_code 7 = .ok (.getfield 15, 3) := by decide +kernel
theorem d0_10 : decode jdk_42_method_152_code 10 = .ok (.goto 4, 3) := by decide +kernel
theorem d0_14 : decode jdk_42_method_152_code 14 = .ok (.ireturn, 1) := by decide +kernel
theorem pn0 : plainName "java/lang/String" = true := by first | (simp [plainName, overriddenIn]; done) | decide +kernel
theorem efJco (m : MethodId) (a1 : Addr) : entryFrame m #[(.ref a1)] 1 = mkF m 0 #[rv a1] [] := by first | (simp [entryFrame, mkF, argsToLocals, Value.category]; done) | rfl
def QJco (Z : State) (a1 : Addr) (cz : Int32) (fv : Value) (cd : Int32) (r : Int32) (h0 : Heap) (n0 : Nat) (v : Option Value) (h : Heap) (L : List Loc) : Prop := v = some (.int r) ∧ Fr n0 L ∧ h = h0
set_option maxRecDepth 65536 in
set_option maxHeartbeats 40000000 in
theorem rmJco (l : Launch) (Z : State) (a0 : Array Value) (hw : HW a0 Z) (ws : List Jvm.Cond) (a1 : Addr) (cz : Int32) (fv : Value) (cd : Int32) (r : Int32) (h0 : Heap) (n0 : Nat) (Z0 : n0 ≤ h0.size) (O0 : Old Z n0 h0) (J0 : Jd Z cz fv) (FC : Fld Z h0 a1 "java/lang/String" "coder" "B" (.int cd)) (hcd : nar .byte cd = cd) (hR : cd = r) :
    MF l Z mN0 jdk_42_method_152_code 1 (some .byte) ws rKJco #[(.ref a1)] h0 (QJco Z a1 cz fv cd r h0 n0) := by
  refine MetFree.of_bodySF (plainFor_of_name pn0) hisR ?_
  intro p e s m args bl meth c s1 Bd hml0 hP hK
  obtain ⟨rfl, hZ, hh⟩ := hP
  have hx := Bd.exec
  have hby := Bd.bytes
  have B := @hb c _ hby
  have hown : s.vm.findClass "java/lang/String" = some m.cls := findClass_of_methodNamed Bd.named
  have hlk : meth.locks = false := BodyLoose.notSynchronized Bd
  have hrt : ∀ {v : Option Value}, meth.sig.returnType = none → v = none := fun h => by rw [Bd.returns] at h; cases h
  have X0 : Stand p l e rKJco s m #[(.ref a1)] bl meth c s1 [] 0 0 := Stand.of_body Bd
  have e0 : s1.heap = h0 := by rw [← hh, Bd.state]; rfl
  have N0 := Fr.nil n0
  obtain ⟨EF, hEF⟩ : ∃ f, f = entryFrame m #[(.ref a1)] 1 := ⟨_, rfl⟩
  have pre0 : Go p e bl s1 (mkF m 0 #[rv a1] []) s1 EF := fun t k => by rw [hEF]; exact castTop (efJco m a1) k
  obtain ⟨T1, X1, e1, st1⟩ := getS2 X0 hx hZ hown (host := "") (Or.inl (hw _ (mW 42 rfl))) Via.refl e0 (J0.1.ext O0.2) (g := (mkF m 0 #[rv a1] [])) rfl (B d0_0)
  have pre2 : Go p e bl T1 (mkF m 3 #[rv a1] [(.int cz)]) s1 EF := fun t k => pre0 t (st1 t k)
  have pre3 : Go p e bl T1 (mkF m 6 #[rv a1] []) s1 EF := fun t k => pre2 t (XS.ifNo X1.here hx rfl (B d0_3) rfl ((if0 _ _).trans (feq J0.2.1).1) k)
  have pre4 : Go p e bl T1 (mkF m 7 #[rv a1] [(.ref a1)]) s1 EF := fun t k => pre3 t (by
   exact XS.aloadN X1.here hx rfl (B d0_6) rfl rfl k)
  obtain ⟨T5, X5, e5, st5⟩ := getF X1 hx hZ hown (host := "") (Or.inl (hw _ (mW 27 rfl))) Via.refl e1 FC (g := (mkF m 7 #[rv a1] [(.ref a1)])) rfl rfl (B d0_7)
  have pre6 : Go p e bl T5 (mkF m 10 #[rv a1] [(.int cd)]) s1 EF := fun t k => pre4 t (st5 t k)
  have pre7 : Go p e bl T5 (mkF m 14 #[rv a1] [(.int cd)]) s1 EF := fun t k => pre6 t (by
   exact XS.goto X5.here hx rfl (pc0 := 10) (pc' := 14) rfl (B d0_10) (by decide) (by decide) k)
  have hnr : Value.int (nar .byte cd) = (.int cd) := by rw [hcd]
  exact fin1 X5 (v := some (.int cd)) hrt hlk (wl rfl) (wl rfl) (by rw [e5]; exact ⟨by rw [hR], N0, rfl⟩) (fun fs hr => hEF ▸ pre7 _ (retN X5 hx (t := .byte) Bd.returns (by simp) (B d0_14) (hnr ▸ hr)))
abbrev rKJle : Room := { frames := 1, cells := 0, slots := 0, locals := 13 }
theorem d1_0 : decode jdk_42_method_54_code 0 = .ok (.aload_n 0, 1) := by decide +kernel
theorem d1_1 : decode jdk_42_method_54_code 1 = .ok (.getfield 9, 3) := by decide +kernel
theorem d1_4 : decode jdk_42_method_54_code 4 = .ok (.arraylength, 1) := by decide +kernel
theorem d1_5 : decode jdk_42_method_54_code 5 = .ok (.aload_n 0, 1) := by decide +kernel
theorem d1_6 : decode jdk_42_method_54_code 6 = .ok (.invokevirtual 335, 3) := by decide +kernel
theorem d1_9 : decode jdk_42_method_54_code 9 = .ok (.ishr, 1) := by decide +kernel
theorem d1_10 : decode jdk_42_method_54_code 10 = .ok (.ireturn, 1) := by decide +kernel
theorem pd0 : parseMethodDescriptor "()B" = some ⟨[], some .byte⟩ := by decide +kernel
theorem efJle (m : MethodId) (a1 : Addr) : entryFrame m #[(.ref a1)] 1 = mkF m 0 #[rv a1] [] := by first | (simp [entryFrame, mkF, argsToLocals, Value.category]; done) | rfl
def QJle (Z : State) (a1 : Addr) (cz : Int32) (fv : Value) (cd : Int32) (b : Addr) (k : ClassId) (z : Int32) (vs : List Value) (r : Int32) (h0 : Heap) (n0 : Nat) (v : Option Value) (h : Heap) (L : List Loc) : Prop := v = some (.int r) ∧ Fr n0 L ∧ h = h0
set_option maxRecDepth 65536 in
set_option maxHeartbeats 40000000 in
theorem rmJle (l : Launch) (Z : State) (a0 : Array Value) (hw : HW a0 Z) (ws : List Jvm.Cond) (a1 : Addr) (cz : Int32) (fv : Value) (cd : Int32) (b : Addr) (k : ClassId) (z : Int32) (vs : List Value) (r : Int32) (h0 : Heap) (n0 : Nat) (Z0 : n0 ≤ h0.size) (O0 : Old Z n0 h0) (J0 : Jd Z cz fv) (E1 : Exa Z h0 a1 "java/lang/String") (FC : Fld Z h0 a1 "java/lang/String" "coder" "B" (.int cd)) (FV : Fld Z h0 a1 "java/lang/String" "value" "[B" (.ref b)) (VV : Arv Z h0 b k .byte z vs (.int 0)) (hcd : nar .byte cd = cd) (hR : z >>> (cd &&& 31) = r) :
    MF l Z mN1 jdk_42_method_54_code 1 (some .int) ws rKJle #[(.ref a1)] h0 (QJle Z a1 cz fv cd b k z vs r h0 n0) := by
  refine MetFree.of_bodySF (plainFor_of_name pn0) hisR ?_
  intro p e s m args bl meth c s1 Bd hml0 hP hK
  obtain ⟨rfl, hZ, hh⟩ := hP
  have hx := Bd.exec
  have hby := Bd.bytes
  have B := @hb c _ hby
  have hM := fun {n : Nat} (h : n = 1) => h.trans hml0.symm
  have hown : s.vm.findClass "java/lang/String" = some m.cls := findClass_of_methodNamed Bd.named
  have hlk : meth.locks = false := BodyLoose.notSynchronized Bd
  have hrt : ∀ {v : Option Value}, meth.sig.returnType = none → v = none := fun h => by rw [Bd.returns] at h; cases h
  have X0 : Stand p l e rKJle s m #[(.ref a1)] bl meth c s1 [] 0 0 := Stand.of_body Bd
  have e0 : s1.heap = h0 := by rw [← hh, Bd.state]; rfl
  have N0 := Fr.nil n0
  obtain ⟨EF, hEF⟩ : ∃ f, f = entryFrame m #[(.ref a1)] 1 := ⟨_, rfl⟩
  have pre0 : Go p e bl s1 (mkF m 0 #[rv a1] []) s1 EF := fun t k => by rw [hEF]; exact castTop (efJle m a1) k
  have pre1 : Go p e bl s1 (mkF m 1 #[rv a1] [(.ref a1)]) s1 EF := fun t k => pre0 t (by
   exact XS.aloadN X0.here hx rfl (B d1_0) rfl rfl k)
  obtain ⟨T2, X2, e2, st2⟩ := getF X0 hx hZ hown (host := "") (Or.inl (hw _ (mW 26 rfl))) Via.refl e0 FV (g := (mkF m 1 #[rv a1] [(.ref a1)])) rfl rfl (B d1_1)
  have pre3 : Go p e bl T2 (mkF m 4 #[rv a1] [(.ref b)]) s1 EF := fun t k => pre1 t (st2 t k)
  obtain ⟨cl4, Ar4, q4, Sz4, M4, H4, G4⟩ := id VV
  have pre5 : Go p e bl T2 (mkF m 6 #[rv a1] [(.ref a1), (.int z)]) s1 EF := fun t k => pre3 t (by
   refine X2.arraylength hx (by rw [e2]; exact Ar4.1) (State.isArrayOf_alike hZ.alike Ar4.2.1) (g := (mkF m 4 #[rv a1] [(.ref b)])) rfl rfl (B d1_4) _ ?_
   rw [len_of Sz4 M4]
   exact XS.aloadN X2.here hx rfl (B d1_5) rfl rfl k)
  obtain ⟨cq6, kq6, q6a, q6b, q6c⟩ := isOf hZ e2 E1
  obtain ⟨_, _, ⟨T6, L6, k6, n6⟩, -, X6, ⟨Lc6, hQ6, l6, y6, z6⟩, st6⟩ := X2.virtualBack hx (y := mN0) (z := mN0) hown (mvT hZ (hw _ (mW 37 rfl))) (mvT hZ (hw _ (mW 38 rfl))) (notFace_of_selects (args := #[]) (mvT hZ (hw _ (mW 40 rfl)))) (mvT hZ (hw _ (mW 40 rfl))) (mvT hZ (hw _ (mW 39 rfl))) (by decide) (backOf (W := 1) (rmJco l Z a0 hw [] a1 cz fv cd cd h0 n0 Z0 O0 J0 FC hcd rfl) hZ (hw _ (mW 41 rfl)) (hw _ (mW 8 rfl)) (by decide) (by decide)) q6a q6c (g := (mkF m 6 #[rv a1] [(.ref a1), (.int z)])) rfl (hM rfl) (Steps.refl _) (argsL := []) (rest := [(.int z)]) (lenOf pd0 rfl) rfl (Nat.le_of_eq rfl) (B d1_6) (fun _ _ => ⟨rfl, e2, wl rfl, wl rfl⟩)
  dsimp only [Pt.U, Pt.locs, Pt.cells, Pt.slots] at X6 l6 y6 z6 st6 hQ6
  subst l6 y6 z6
  obtain ⟨rfl, N6q, hq6⟩ := hQ6
  have N6 := Fr.app N0 N6q
  have pre7 : Go p e bl T6 (mkF m 9 #[rv a1] [(.int cd), (.int z)]) s1 EF := fun t k => pre5 t (st6.trans k)
  have e6 : T6.heap = h0 := hq6
  have pre8 : Go p e bl T6 (mkF m 10 #[rv a1] [(.int (z >>> (cd &&& 31)))]) s1 EF := fun t k => pre7 t (by
   exact XS.ishr X6.here hx rfl (B d1_9) rfl k)
  exact fin1 X6 (v := some (.int (z >>> (cd &&& 31)))) hrt hlk (wl rfl) (wl rfl) (by rw [e6]; exact ⟨by rw [hR], N6, rfl⟩) (fun fs hr => hEF ▸ pre8 _ (retOut X6 hx Bd.returns rfl (Or.inl ⟨rfl, Or.inl rfl, _, rfl⟩) (B d1_10) hr))
def QJL (n : Int32) (h0 : Heap) (n0 : Nat) (v : Option Value) (h : Heap) (L : List Loc) : Prop := v = some (.int n) ∧ Fr n0 L ∧ h = h0
theorem own_shr {z : Int32} {n : Int32} (h : z.toInt = 2 * n.toInt) : z >>> ((1 : Int32) &&& 31) = n := by
  have q := c_ishr z 1 1 (by decide)
  have p : ((2 ^ 1 : Nat) : Int) = 2 := by decide
  rw [p] at q; rw [← Int32.toInt_inj, q]; omega
theorem own_shr0 {z : Int32} {n : Int32} (h : z.toInt = n.toInt) : z >>> ((0 : Int32) &&& 31) = n := by
  have q := c_ishr z 0 0 (by decide)
  have p : ((2 ^ 0 : Nat) : Int) = 1 := by decide
  rw [p] at q; rw [← Int32.toInt_inj, q]; omega
theorem rmJL (l : Launch) (Z : State) (a0 : Array Value) (hw : HW a0 Z) (ws : List Jvm.Cond) (a1 : Addr) (cz : Int32) (fv : Value) (cs : List Int32) (n : Int32) (h0 : Heap) (n0 : Nat) (Z0 : n0 ≤ h0.size) (O0 : Old Z n0 h0) (J0 : Jd Z cz fv) (S : Str Z h0 a1 cs) (hn : n.toInt = cs.length) :
    MetFree l mN1 (head1 (Jvm.Cond.code mN1 jdk_42_method_54_code 1 (some .int) :: ws) rKJle) (fun a U => a = #[(.ref a1)] ∧ Z.Warmed39 U.vm ∧ U.heap = h0) (fun _ _ _ _ _ => True) (fun _ U o U' => ∃ v L, o = .returned v ∧ QJL n h0 n0 v U'.heap L ∧ FrameEnd U o U' L rKJle.cells rKJle.slots) := by
  obtain ⟨cd, b, k, z, vs, E, FC, FV, VV, hb, h⟩ := S
  rcases h with ⟨rfl, hz, -, -⟩ | ⟨rfl, hz, -, -⟩
  · exact rmJle l Z a0 hw ws a1 cz fv 0 b k z vs n h0 n0 Z0 O0 J0 E FC FV VV rfl (own_shr0 (by omega))
  · exact rmJle l Z a0 hw ws a1 cz fv 1 b k z vs n h0 n0 Z0 O0 J0 E FC FV VV rfl (own_shr (by omega))
abbrev rKJil : Room := { frames := 0, cells := 0, slots := 0, locals := 0 }
theorem d2_0 : decode jdk_42_method_154_code 0 = .ok (.getstatic 38, 3) := by decide +kernel
theorem d2_3 : decode jdk_42_method_154_code 3 = .ok (.ifCond .eq 14, 3) := by decide +kernel
theorem d2_6 : decode jdk_42_method_154_code 6 = .ok (.aload_n 0, 1) := by decide +kernel
theorem d2_7 : decode jdk_42_method_154_code 7 = .ok (.getfield 15, 3) := by decide +kernel
theorem d2_10 : decode jdk_42_method_154_code 10 = .ok (.ifCond .ne 7, 3) := by decide +kernel
theorem d2_13 : decode jdk_42_method_154_code 13 = .ok (.iconst 1, 1) := by decide +kernel
theorem d2_14 : decode jdk_42_method_154_code 14 = .ok (.goto 4, 3) := by decide +kernel
theorem d2_17 : decode jdk_42_method_154_code 17 = .ok (.iconst 0, 1) := by decide +kernel
theorem d2_18 : decode jdk_42_method_154_code 18 = .ok (.ireturn, 1) := by decide +kernel
theorem efJil (m : MethodId) (a1 : Addr) : entryFrame m #[(.ref a1)] 1 = mkF m 0 #[rv a1] [] := by first | (simp [entryFrame, mkF, argsToLocals, Value.category]; done) | rfl
def QJil (Z : State) (a1 : Addr) (cz : Int32) (fv : Value) (cd : Int32) (r : Int32) (h0 : Heap) (n0 : Nat) (v : Option Value) (h : Heap) (L : List Loc) : Prop := v = some (.int r) ∧ Fr n0 L ∧ h = h0
set_option maxRecDepth 65536 in
set_option maxHeartbeats 40000000 in
theorem rmJil (l : Launch) (Z : State) (a0 : Array Value) (hw : HW a0 Z) (ws : List Jvm.Cond) (a1 : Addr) (cz : Int32) (fv : Value) (cd : Int32) (r : Int32) (h0 : Heap) (n0 : Nat) (Z0 : n0 ≤ h0.size) (O0 : Old Z n0 h0) (J0 : Jd Z cz fv) (FC : Fld Z h0 a1 "java/lang/String" "coder" "B" (.int cd)) (hR : (if cd = 0 then 1 else 0) = r) :
    MF l Z mN2 jdk_42_method_154_code 1 (some .boolean) ws rKJil #[(.ref a1)] h0 (QJil Z a1 cz fv cd r h0 n0) := by
  refine MetFree.of_bodySF (plainFor_of_name pn0) hisR ?_
  intro p e s m args bl meth c s1 Bd hml0 hP hK
  obtain ⟨rfl, hZ, hh⟩ := hP
  have hx := Bd.exec
  have hby := Bd.bytes
  have B := @hb c _ hby
  have hown : s.vm.findClass "java/lang/String" = some m.cls := findClass_of_methodNamed Bd.named
  have hlk : meth.locks = false := BodyLoose.notSynchronized Bd
  have hrt : ∀ {v : Option Value}, meth.sig.returnType = none → v = none := fun h => by rw [Bd.returns] at h; cases h
  have X0 : Stand p l e rKJil s m #[(.ref a1)] bl meth c s1 [] 0 0 := Stand.of_body Bd
  have e0 : s1.heap = h0 := by rw [← hh, Bd.state]; rfl
  have N0 := Fr.nil n0
  obtain ⟨EF, hEF⟩ : ∃ f, f = entryFrame m #[(.ref a1)] 1 := ⟨_, rfl⟩
  have pre0 : Go p e bl s1 (mkF m 0 #[rv a1] []) s1 EF := fun t k => by rw [hEF]; exact castTop (efJil m a1) k
  obtain ⟨T1, X1, e1, st1⟩ := getS2 X0 hx hZ hown (host := "") (Or.inl (hw _ (mW 42 rfl))) Via.refl e0 (J0.1.ext O0.2) (g := (mkF m 0 #[rv a1] [])) rfl (B d2_0)
  have pre2 : Go p e bl T1 (mkF m 3 #[rv a1] [(.int cz)]) s1 EF := fun t k => pre0 t (st1 t k)
  have pre3 : Go p e bl T1 (mkF m 6 #[rv a1] []) s1 EF := fun t k => pre2 t (XS.ifNo X1.here hx rfl (B d2_3) rfl ((if0 _ _).trans (feq J0.2.1).1) k)
  have pre4 : Go p e bl T1 (mkF m 7 #[rv a1] [(.ref a1)]) s1 EF := fun t k => pre3 t (by
   exact XS.aloadN X1.here hx rfl (B d2_6) rfl rfl k)
  obtain ⟨T5, X5, e5, st5⟩ := getF X1 hx hZ hown (host := "") (Or.inl (hw _ (mW 27 rfl))) Via.refl e1 FC (g := (mkF m 7 #[rv a1] [(.ref a1)])) rfl rfl (B d2_7)
  have pre6 : Go p e bl T5 (mkF m 10 #[rv a1] [(.int cd)]) s1 EF := fun t k => pre4 t (st5 t k)
  by_cases hc10 : cd = (0 : Int32)
  · have pre7 : Go p e bl T5 (mkF m 13 #[rv a1] []) s1 EF := fun t k => pre6 t (XS.ifNo X5.here hx rfl (B d2_10) rfl ((if0 _ _).trans (teq hc10).2) k)
    have pre8 : Go p e bl T5 (mkF m 18 #[rv a1] [(.int (1 : Int32))]) s1 EF := fun t k => pre7 t (by
     refine XS.iconst X5.here hx rfl (B d2_13) ?_
     exact XS.goto X5.here hx rfl (pc0 := 14) (pc' := 18) rfl (B d2_14) (by decide) (by decide) k)
    have hnr : Value.int (nar .boolean (1 : Int32)) = (.int (1 : Int32)) := by rfl
    exact fin1 X5 (v := some (.int (1 : Int32))) hrt hlk (wl rfl) (wl rfl) (by rw [e5]; exact ⟨by rw [← hR]; simp [hc10], N0, rfl⟩) (fun fs hr => hEF ▸ pre8 _ (retN X5 hx (t := .boolean) Bd.returns (by simp) (B d2_18) (hnr ▸ hr)))
  have pre9 : Go p e bl T5 (mkF m 17 #[rv a1] []) s1 EF := fun t k => pre6 t (XS.ifYes X5.here hx rfl (pc0 := 10) (pc' := 17) rfl (B d2_10) rfl ((if0 _ _).trans (feq hc10).2) (by decide) (by decide) k)
  have pre10 : Go p e bl T5 (mkF m 18 #[rv a1] [(.int (0 : Int32))]) s1 EF := fun t k => pre9 t (by
   exact XS.iconst X5.here hx rfl (B d2_17) k)
  have hnr : Value.int (nar .boolean (0 : Int32)) = (.int (0 : Int32)) := by rfl
  exact fin1 X5 (v := some (.int (0 : Int32))) hrt hlk (wl rfl) (wl rfl) (by rw [e5]; exact ⟨by rw [← hR]; simp [hc10], N0, rfl⟩) (fun fs hr => hEF ▸ pre10 _ (retN X5 hx (t := .boolean) Bd.returns (by simp) (B d2_18) (hnr ▸ hr)))
abbrev rKJpc : Room := { frames := 0, cells := 0, slots := 0, locals := 0 }
theorem d3_0 : decode jdk_41_method_11_code 0 = .ok (.iload_n 0, 1) := by decide +kernel
theorem d3_1 : decode jdk_41_method_11_code 1 = .ok (.ifCond .lt 8, 3) := by decide +kernel
theorem d3_4 : decode jdk_41_method_11_code 4 = .ok (.iload_n 0, 1) := by decide +kernel
theorem d3_5 : decode jdk_41_method_11_code 5 = .ok (.iload_n 1, 1) := by decide +kernel
theorem d3_6 : decode jdk_41_method_11_code 6 = .ok (.if_icmp .lt 10, 3) := by decide +kernel
theorem d3_16 : decode jdk_41_method_11_code 16 = .ok (.iload_n 0, 1) := by decide +kernel
theorem d3_17 : decode jdk_41_method_11_code 17 = .ok (.ireturn, 1) := by decide +kernel
theorem pn1 : plainName "jdk/internal/util/Preconditions" = true := by first | (simp [plainName, overriddenIn]; done) | decide +kernel
theorem efJpc (m : MethodId) (p1 : Int32) (p2 : Int32) (a3 : Addr) : entryFrame m #[(.int p1), (.int p2), (.ref a3)] 3 = mkF m 0 #[iv p1, iv p2, rv a3] [] := by first | (simp [entryFrame, mkF, argsToLocals, Value.category]; done) | rfl
def QJpc (Z : State) (p1 : Int32) (p2 : Int32) (a3 : Addr) (cz : Int32) (fv : Value) (h0 : Heap) (n0 : Nat) (v : Option Value) (h : Heap) (L : List Loc) : Prop := v = some (.int p1) ∧ Fr n0 L ∧ h = h0
set_option maxRecDepth 65536 in
set_option maxHeartbeats 40000000 in
theorem rmJpc (l : Launch) (Z : State) (a0 : Array Value) (hw : HW a0 Z) (ws : List Jvm.Cond) (p1 : Int32) (p2 : Int32) (a3 : Addr) (cz : Int32) (fv : Value) (h0 : Heap) (n0 : Nat) (Z0 : n0 ≤ h0.size) (O0 : Old Z n0 h0) (J0 : Jd Z cz fv) (h1 : ¬ p1 < 0) (h2 : p1 < p2) :
    MF l Z mN3 jdk_41_method_11_code 3 (some .int) ws rKJpc #[(.int p1), (.int p2), (.ref a3)] h0 (QJpc Z p1 p2 a3 cz fv h0 n0) := by
  refine MetFree.of_bodySF (plainFor_of_name pn1) hisR ?_
  intro p e s m args bl meth c s1 Bd hml0 hP hK
  obtain ⟨rfl, hZ, hh⟩ := hP
  have hx := Bd.exec
  have hby := Bd.bytes
  have B := @hb c _ hby
  have hown : s.vm.findClass "jdk/internal/util/Preconditions" = some m.cls := findClass_of_methodNamed Bd.named
  have hlk : meth.locks = false := BodyLoose.notSynchronized Bd
  have hrt : ∀ {v : Option Value}, meth.sig.returnType = none → v = none := fun h => by rw [Bd.returns] at h; cases h
  have X0 : Stand p l e rKJpc s m #[(.int p1), (.int p2), (.ref a3)] bl meth c s1 [] 0 0 := Stand.of_body Bd
  have e0 : s1.heap = h0 := by rw [← hh, Bd.state]; rfl
  have N0 := Fr.nil n0
  obtain ⟨EF, hEF⟩ : ∃ f, f = entryFrame m #[(.int p1), (.int p2), (.ref a3)] 3 := ⟨_, rfl⟩
  have pre0 : Go p e bl s1 (mkF m 0 #[iv p1, iv p2, rv a3] []) s1 EF := fun t k => by rw [hEF]; exact castTop (efJpc m p1 p2 a3) k
  have pre1 : Go p e bl s1 (mkF m 1 #[iv p1, iv p2, rv a3] [(.int p1)]) s1 EF := fun t k => pre0 t (by
   exact XS.iloadN X0.here hx rfl (B d3_0) rfl k)
  have pre2 : Go p e bl s1 (mkF m 4 #[iv p1, iv p2, rv a3] []) s1 EF := fun t k => pre1 t (XS.ifNo X0.here hx rfl (B d3_1) rfl ((if0 _ _).trans (flt h1).1) k)
  have pre3 : Go p e bl s1 (mkF m 6 #[iv p1, iv p2, rv a3] [(.int p2), (.int p1)]) s1 EF := fun t k => pre2 t (by
   refine XS.iloadN X0.here hx rfl (B d3_4) rfl ?_
   exact XS.iloadN X0.here hx rfl (B d3_5) rfl k)
  have pre4 : Go p e bl s1 (mkF m 16 #[iv p1, iv p2, rv a3] []) s1 EF := fun t k => pre3 t (XS.icmpYes X0.here hx rfl (pc0 := 6) (pc' := 16) rfl (B d3_6) rfl (tlt h2).1 (by decide) (by decide) k)
  have pre5 : Go p e bl s1 (mkF m 17 #[iv p1, iv p2, rv a3] [(.int p1)]) s1 EF := fun t k => pre4 t (by
   exact XS.iloadN X0.here hx rfl (B d3_16) rfl k)
  exact fin1 X0 (v := some (.int p1)) hrt hlk (wl rfl) (wl rfl) (by rw [e0]; exact ⟨rfl, N0, rfl⟩) (fun fs hr => hEF ▸ pre5 _ (retOut X0 hx Bd.returns rfl (Or.inl ⟨rfl, Or.inl rfl, _, rfl⟩) (B d3_17) hr))
abbrev rKJpn : Room := { frames := 0, cells := 0, slots := 0, locals := 0 }
theorem efJpn (m : MethodId) (p1 : Int32) (p2 : Int32) : entryFrame m #[(.int p1), (.int p2), .null] 3 = mkF m 0 #[iv p1, iv p2, .val .null] [] := by first | (simp [entryFrame, mkF, argsToLocals, Value.category]; done) | rfl
def QJpn (Z : State) (p1 : Int32) (p2 : Int32) (cz : Int32) (fv : Value) (h0 : Heap) (n0 : Nat) (v : Option Value) (h : Heap) (L : List Loc) : Prop := v = some (.int p1) ∧ Fr n0 L ∧ h = h0
set_option maxRecDepth 65536 in
set_option maxHeartbeats 40000000 in
theorem rmJpn (l : Launch) (Z : State) (a0 : Array Value) (hw : HW a0 Z) (ws : List Jvm.Cond) (p1 : Int32) (p2 : Int32) (cz : Int32) (fv : Value) (h0 : Heap) (n0 : Nat) (Z0 : n0 ≤ h0.size) (O0 : Old Z n0 h0) (J0 : Jd Z cz fv) (h1 : ¬ p1 < 0) (h2 : p1 < p2) :
    MF l Z mN3 jdk_41_method_11_code 3 (some .int) ws rKJpn #[(.int p1), (.int p2), .null] h0 (QJpn Z p1 p2 cz fv h0 n0) := by
  refine MetFree.of_bodySF (plainFor_of_name pn1) hisR ?_
  intro p e s m args bl meth c s1 Bd hml0 hP hK
  obtain ⟨rfl, hZ, hh⟩ := hP
  have hx := Bd.exec
  have hby := Bd.bytes
  have B := @hb c _ hby
  have hown : s.vm.findClass "jdk/internal/util/Preconditions" = some m.cls := findClass_of_methodNamed Bd.named
  have hlk : meth.locks = false := BodyLoose.notSynchronized Bd
  have hrt : ∀ {v : Option Value}, meth.sig.returnType = none → v = none := fun h => by rw [Bd.returns] at h; cases h
  have X0 : Stand p l e rKJpn s m #[(.int p1), (.int p2), .null] bl meth c s1 [] 0 0 := Stand.of_body Bd
  have e0 : s1.heap = h0 := by rw [← hh, Bd.state]; rfl
  have N0 := Fr.nil n0
  obtain ⟨EF, hEF⟩ : ∃ f, f = entryFrame m #[(.int p1), (.int p2), .null] 3 := ⟨_, rfl⟩
  have pre0 : Go p e bl s1 (mkF m 0 #[iv p1, iv p2, .val .null] []) s1 EF := fun t k => by rw [hEF]; exact castTop (efJpn m p1 p2) k
  have pre1 : Go p e bl s1 (mkF m 1 #[iv p1, iv p2, .val .null] [(.int p1)]) s1 EF := fun t k => pre0 t (by
   exact XS.iloadN X0.here hx rfl (B d3_0) rfl k)
  have pre2 : Go p e bl s1 (mkF m 4 #[iv p1, iv p2, .val .null] []) s1 EF := fun t k => pre1 t (XS.ifNo X0.here hx rfl (B d3_1) rfl ((if0 _ _).trans (flt h1).1) k)
  have pre3 : Go p e bl s1 (mkF m 6 #[iv p1, iv p2, .val .null] [(.int p2), (.int p1)]) s1 EF := fun t k => pre2 t (by
   refine XS.iloadN X0.here hx rfl (B d3_4) rfl ?_
   exact XS.iloadN X0.here hx rfl (B d3_5) rfl k)
  have pre4 : Go p e bl s1 (mkF m 16 #[iv p1, iv p2, .val .null] []) s1 EF := fun t k => pre3 t (XS.icmpYes X0.here hx rfl (pc0 := 6) (pc' := 16) rfl (B d3_6) rfl (tlt h2).1 (by decide) (by decide) k)
  have pre5 : Go p e bl s1 (mkF m 17 #[iv p1, iv p2, .val .null] [(.int p1)]) s1 EF := fun t k => pre4 t (by
   exact XS.iloadN X0.here hx rfl (B d3_16) rfl k)
  exact fin1 X0 (v := some (.int p1)) hrt hlk (wl rfl) (wl rfl) (by rw [e0]; exact ⟨rfl, N0, rfl⟩) (fun fs hr => hEF ▸ pre5 _ (retOut X0 hx Bd.returns rfl (Or.inl ⟨rfl, Or.inl rfl, _, rfl⟩) (B d3_17) hr))
abbrev rKJci : Room := { frames := 1, cells := 0, slots := 0, locals := 14 }
theorem d4_0 : decode jdk_42_method_155_code 0 = .ok (.iload_n 0, 1) := by decide +kernel
theorem d4_1 : decode jdk_42_method_155_code 1 = .ok (.iload_n 1, 1) := by decide +kernel
theorem d4_2 : decode jdk_42_method_155_code 2 = .ok (.getstatic 1053, 3) := by decide +kernel
theorem d4_5 : decode jdk_42_method_155_code 5 = .ok (.invokestatic 1059, 3) := by decide +kernel
theorem d4_8 : decode jdk_42_method_155_code 8 = .ok (.pop, 1) := by decide +kernel
theorem d4_9 : decode jdk_42_method_155_code 9 = .ok (.return_, 1) := by decide +kernel
theorem pd1 : parseMethodDescriptor "(IILjava/util/function/BiFunction;)I" = some ⟨[.int, .int, (.object "java/util/function/BiFunction")], some .int⟩ := by decide +kernel
theorem efJci (m : MethodId) (p1 : Int32) (p2 : Int32) : entryFrame m #[(.int p1), (.int p2)] 2 = mkF m 0 #[iv p1, iv p2] [] := by first | (simp [entryFrame, mkF, argsToLocals, Value.category]; done) | rfl
def QJci (Z : State) (p1 : Int32) (p2 : Int32) (cz : Int32) (fv : Value) (h0 : Heap) (n0 : Nat) (v : Option Value) (h : Heap) (L : List Loc) : Prop := v = none ∧ Fr n0 L ∧ h = h0
set_option maxRecDepth 65536 in
set_option maxHeartbeats 40000000 in
theorem rmJci (l : Launch) (Z : State) (a0 : Array Value) (hw : HW a0 Z) (ws : List Jvm.Cond) (p1 : Int32) (p2 : Int32) (cz : Int32) (fv : Value) (h0 : Heap) (n0 : Nat) (Z0 : n0 ≤ h0.size) (O0 : Old Z n0 h0) (J0 : Jd Z cz fv) (h1 : ¬ p1 < 0) (h2 : p1 < p2) :
    MF l Z mN4 jdk_42_method_155_code 2 none ws rKJci #[(.int p1), (.int p2)] h0 (QJci Z p1 p2 cz fv h0 n0) := by
  refine MetFree.of_bodySF (plainFor_of_name pn0) hisR ?_
  intro p e s m args bl meth c s1 Bd hml0 hP hK
  obtain ⟨rfl, hZ, hh⟩ := hP
  have hx := Bd.exec
  have hby := Bd.bytes
  have B := @hb c _ hby
  have hM := fun {n : Nat} (h : n = 2) => h.trans hml0.symm
  have hown : s.vm.findClass "java/lang/String" = some m.cls := findClass_of_methodNamed Bd.named
  have hlk : meth.locks = false := BodyLoose.notSynchronized Bd
  have X0 : Stand p l e rKJci s m #[(.int p1), (.int p2)] bl meth c s1 [] 0 0 := Stand.of_body Bd
  have e0 : s1.heap = h0 := by rw [← hh, Bd.state]; rfl
  have N0 := Fr.nil n0
  obtain ⟨EF, hEF⟩ : ∃ f, f = entryFrame m #[(.int p1), (.int p2)] 2 := ⟨_, rfl⟩
  have pre0 : Go p e bl s1 (mkF m 0 #[iv p1, iv p2] []) s1 EF := fun t k => by rw [hEF]; exact castTop (efJci m p1 p2) k
  have hfr := J0.2.2.1.1
  have hfs := J0.2.2.1.2
  rcases ref_cases hfr with hfv | ⟨fo, hfv⟩
  · rw [hfv] at hfs
    have pre1 : Go p e bl s1 (mkF m 2 #[iv p1, iv p2] [(.int p2), (.int p1)]) s1 EF := fun t k => pre0 t (by
     refine XS.iloadN X0.here hx rfl (B d4_0) rfl ?_
     exact XS.iloadN X0.here hx rfl (B d4_1) rfl k)
    obtain ⟨T2, X2, e2, st2⟩ := getS2 X0 hx hZ hown (host := "") (Or.inl (hw _ (mW 73 rfl))) Via.refl e0 (hfs.ext O0.2) (g := (mkF m 2 #[iv p1, iv p2] [(.int p2), (.int p1)])) rfl (B d4_2)
    have pre3 : Go p e bl T2 (mkF m 5 #[iv p1, iv p2] [.null, (.int p2), (.int p1)]) s1 EF := fun t k => pre1 t (st2 t k)
    obtain ⟨_, _, ⟨T4, L4, k4, n4⟩, -, X4, ⟨Lc4, hQ4, l4, y4, z4⟩, st4⟩ := Jvm.LawKit.callS X2 hx (y := mN3) hown (mvT hZ (hw _ (mW 75 rfl))) (mvT hZ (hw _ (mW 76 rfl))) (mvT hZ (hw _ (mW 74 rfl))) (mvT hZ (hw _ (mW 77 rfl))) (by decide) (backOf (W := 0) (rmJpn l Z a0 hw [] p1 p2 cz fv  h0 n0 Z0 O0 J0 h1 h2) hZ (hw _ (mW 77 rfl)) (hw _ (mW 74 rfl)) (by decide) (by decide)) (g := (mkF m 5 #[iv p1, iv p2] [.null, (.int p2), (.int p1)])) rfl (hM rfl) (argsL := [(.int p1), (.int p2), .null]) (rest := []) (lenOf pd1 rfl) rfl (Nat.le_of_eq rfl) (B d4_5) (fun _ _ => ⟨rfl, e2, wl rfl, wl rfl⟩)
    dsimp only [Pt.U, Pt.locs, Pt.cells, Pt.slots] at X4 l4 y4 z4 st4 hQ4
    subst l4 y4 z4
    obtain ⟨rfl, N4q, hq4⟩ := hQ4
    have N4 := Fr.app N0 N4q
    have pre5 : Go p e bl T4 (mkF m 8 #[iv p1, iv p2] [(.int p1)]) s1 EF := fun t k => pre3 t (st4 t k)
    have e4 : T4.heap = h0 := hq4
    have pre6 : Go p e bl T4 (mkF m 9 #[iv p1, iv p2] []) s1 EF := fun t k => pre5 t (by
     exact XS.pop X4.here hx rfl (B d4_8) rfl rfl k)
    exact fin1 X4 (v := none) (fun _ => rfl) hlk (wl rfl) (wl rfl) (by rw [e4]; exact ⟨rfl, N4, rfl⟩) (fun fs hr => hEF ▸ pre6 _ (X4.returnOut hx Bd.returns (B d4_9) hr))
  · rw [hfv] at hfs
    have pre7 : Go p e bl s1 (mkF m 2 #[iv p1, iv p2] [(.int p2), (.int p1)]) s1 EF := fun t k => pre0 t (by
     refine XS.iloadN X0.here hx rfl (B d4_0) rfl ?_
     exact XS.iloadN X0.here hx rfl (B d4_1) rfl k)
    obtain ⟨T8, X8, e8, st8⟩ := getS2 X0 hx hZ hown (host := "") (Or.inl (hw _ (mW 73 rfl))) Via.refl e0 (hfs.ext O0.2) (g := (mkF m 2 #[iv p1, iv p2] [(.int p2), (.int p1)])) rfl (B d4_2)
    have pre9 : Go p e bl T8 (mkF m 5 #[iv p1, iv p2] [(.ref fo), (.int p2), (.int p1)]) s1 EF := fun t k => pre7 t (st8 t k)
    obtain ⟨_, _, ⟨T10, L10, k10, n10⟩, -, X10, ⟨Lc10, hQ10, l10, y10, z10⟩, st10⟩ := Jvm.LawKit.callS X8 hx (y := mN3) hown (mvT hZ (hw _ (mW 75 rfl))) (mvT hZ (hw _ (mW 76 rfl))) (mvT hZ (hw _ (mW 74 rfl))) (mvT hZ (hw _ (mW 77 rfl))) (by decide) (backOf (W := 0) (rmJpc l Z a0 hw [] p1 p2 fo cz fv  h0 n0 Z0 O0 J0 h1 h2) hZ (hw _ (mW 77 rfl)) (hw _ (mW 74 rfl)) (by decide) (by decide)) (g := (mkF m 5 #[iv p1, iv p2] [(.ref fo), (.int p2), (.int p1)])) rfl (hM rfl) (argsL := [(.int p1), (.int p2), (.ref fo)]) (rest := []) (lenOf pd1 rfl) rfl (Nat.le_of_eq rfl) (B d4_5) (fun _ _ => ⟨rfl, e8, wl rfl, wl rfl⟩)
    dsimp only [Pt.U, Pt.locs, Pt.cells, Pt.slots] at X10 l10 y10 z10 st10 hQ10
    subst l10 y10 z10
    obtain ⟨rfl, N10q, hq10⟩ := hQ10
    have N10 := Fr.app N0 N10q
    have pre11 : Go p e bl T10 (mkF m 8 #[iv p1, iv p2] [(.int p1)]) s1 EF := fun t k => pre9 t (st10 t k)
    have e10 : T10.heap = h0 := hq10
    have pre12 : Go p e bl T10 (mkF m 9 #[iv p1, iv p2] []) s1 EF := fun t k => pre11 t (by
     exact XS.pop X10.here hx rfl (B d4_8) rfl rfl k)
    exact fin1 X10 (v := none) (fun _ => rfl) hlk (wl rfl) (wl rfl) (by rw [e10]; exact ⟨rfl, N10, rfl⟩) (fun fs hr => hEF ▸ pre12 _ (X10.returnOut hx Bd.returns (B d4_9) hr))
abbrev rKJl1 : Room := { frames := 2, cells := 0, slots := 0, locals := 27 }
theorem d5_0 : decode jdk_43_method_2_code 0 = .ok (.iload_n 1, 1) := by decide +kernel
theorem d5_1 : decode jdk_43_method_2_code 1 = .ok (.aload_n 0, 1) := by decide +kernel
theorem d5_2 : decode jdk_43_method_2_code 2 = .ok (.arraylength, 1) := by decide +kernel
theorem d5_3 : decode jdk_43_method_2_code 3 = .ok (.invokestatic 9, 3) := by decide +kernel
theorem d5_6 : decode jdk_43_method_2_code 6 = .ok (.aload_n 0, 1) := by decide +kernel
theorem d5_7 : decode jdk_43_method_2_code 7 = .ok (.iload_n 1, 1) := by decide +kernel
theorem d5_8 : decode jdk_43_method_2_code 8 = .ok (.baload, 1) := by decide +kernel
theorem d5_9 : decode jdk_43_method_2_code 9 = .ok (.sipush 255, 3) := by decide +kernel
theorem d5_12 : decode jdk_43_method_2_code 12 = .ok (.iand, 1) := by decide +kernel
theorem d5_13 : decode jdk_43_method_2_code 13 = .ok (.i2c, 1) := by decide +kernel
theorem d5_14 : decode jdk_43_method_2_code 14 = .ok (.ireturn, 1) := by decide +kernel
theorem pn2 : plainName "java/lang/StringLatin1" = true := by first | (simp [plainName, overriddenIn]; done) | decide +kernel
theorem pd2 : parseMethodDescriptor "(II)V" = some ⟨[.int, .int], none⟩ := by decide +kernel
theorem efJl1 (m : MethodId) (a1 : Addr) (p1 : Int32) : entryFrame m #[(.ref a1), (.int p1)] 2 = mkF m 0 #[rv a1, iv p1] [] := by first | (simp [entryFrame, mkF, argsToLocals, Value.category]; done) | rfl
def QJl1 (Z : State) (a1 : Addr) (p1 : Int32) (cz : Int32) (fv : Value) (k : ClassId) (z : Int32) (vs : List Value) (bv : Int32) (r : Int32) (h0 : Heap) (n0 : Nat) (v : Option Value) (h : Heap) (L : List Loc) : Prop := v = some (.int r) ∧ Fr n0 L ∧ h = h0
set_option maxRecDepth 65536 in
set_option maxHeartbeats 40000000 in
theorem rmJl1 (l : Launch) (Z : State) (a0 : Array Value) (hw : HW a0 Z) (ws : List Jvm.Cond) (a1 : Addr) (p1 : Int32) (cz : Int32) (fv : Value) (k : ClassId) (z : Int32) (vs : List Value) (bv : Int32) (r : Int32) (h0 : Heap) (n0 : Nat) (Z0 : n0 ≤ h0.size) (O0 : Old Z n0 h0) (J0 : Jd Z cz fv) (VV : Arv Z h0 a1 k .byte z vs (.int 0)) (h1 : ¬ p1 < 0) (h2 : p1 < z) (hv : vs.getD p1.toNatClampNeg (.int 0) = .int bv) (hR : bv &&& 255 = r) :
    MF l Z mN5 jdk_43_method_2_code 2 (some .char) ws rKJl1 #[(.ref a1), (.int p1)] h0 (QJl1 Z a1 p1 cz fv k z vs bv r h0 n0) := by
  refine MetFree.of_bodySF (plainFor_of_name pn2) hisR ?_
  intro p e s m args bl meth c s1 Bd hml0 hP hK
  obtain ⟨rfl, hZ, hh⟩ := hP
  have hx := Bd.exec
  have hby := Bd.bytes
  have B := @hb c _ hby
  have hM := fun {n : Nat} (h : n = 2) => h.trans hml0.symm
  have hown : s.vm.findClass "java/lang/StringLatin1" = some m.cls := findClass_of_methodNamed Bd.named
  have hlk : meth.locks = false := BodyLoose.notSynchronized Bd
  have hrt : ∀ {v : Option Value}, meth.sig.returnType = none → v = none := fun h => by rw [Bd.returns] at h; cases h
  have X0 : Stand p l e rKJl1 s m #[(.ref a1), (.int p1)] bl meth c s1 [] 0 0 := Stand.of_body Bd
  have e0 : s1.heap = h0 := by rw [← hh, Bd.state]; rfl
  have N0 := Fr.nil n0
  obtain ⟨EF, hEF⟩ : ∃ f, f = entryFrame m #[(.ref a1), (.int p1)] 2 := ⟨_, rfl⟩
  have pre0 : Go p e bl s1 (mkF m 0 #[rv a1, iv p1] []) s1 EF := fun t k => by rw [hEF]; exact castTop (efJl1 m a1 p1) k
  have pre1 : Go p e bl s1 (mkF m 2 #[rv a1, iv p1] [(.ref a1), (.int p1)]) s1 EF := fun t k => pre0 t (by
   refine XS.iloadN X0.here hx rfl (B d5_0) rfl ?_
   exact XS.aloadN X0.here hx rfl (B d5_1) rfl rfl k)
  obtain ⟨cl2, Ar2, q2, Sz2, M2, H2, G2⟩ := id VV
  have pre3 : Go p e bl s1 (mkF m 3 #[rv a1, iv p1] [(.int z), (.int p1)]) s1 EF := fun t k => pre1 t (by
   refine X0.arraylength hx (by rw [e0]; exact Ar2.1) (State.isArrayOf_alike hZ.alike Ar2.2.1) (g := (mkF m 2 #[rv a1, iv p1] [(.ref a1), (.int p1)])) rfl rfl (B d5_2) _ ?_
   rw [len_of Sz2 M2]
   exact k)
  obtain ⟨_, _, ⟨T4, L4, k4, n4⟩, -, X4, ⟨Lc4, hQ4, l4, y4, z4⟩, st4⟩ := Jvm.LawKit.callS X0 hx (y := mN4) hown (mvT hZ (hw _ (mW 70 rfl))) (mvT hZ (hw _ (mW 71 rfl))) (mvT hZ (hw _ (mW 8 rfl))) (mvT hZ (hw _ (mW 72 rfl))) (by decide) (backOf (W := 0) (rmJci l Z a0 hw [] p1 z cz fv  h0 n0 Z0 O0 J0 h1 h2) hZ (hw _ (mW 72 rfl)) (hw _ (mW 8 rfl)) (by decide) (by decide)) (g := (mkF m 3 #[rv a1, iv p1] [(.int z), (.int p1)])) rfl (hM rfl) (argsL := [(.int p1), (.int z)]) (rest := []) (lenOf pd2 rfl) rfl (Nat.le_of_eq rfl) (B d5_3) (fun _ _ => ⟨rfl, e0, wl rfl, wl rfl⟩)
  dsimp only [Pt.U, Pt.locs, Pt.cells, Pt.slots] at X4 l4 y4 z4 st4 hQ4
  subst l4 y4 z4
  obtain ⟨rfl, N4q, hq4⟩ := hQ4
  have N4 := Fr.app N0 N4q
  have pre5 : Go p e bl T4 (mkF m 6 #[rv a1, iv p1] []) s1 EF := fun t k => pre3 t (st4 t k)
  have e4 : T4.heap = h0 := hq4
  have pre6 : Go p e bl T4 (mkF m 8 #[rv a1, iv p1] [(.int p1), (.ref a1)]) s1 EF := fun t k => pre5 t (by
   refine XS.aloadN X4.here hx rfl (B d5_6) rfl rfl ?_
   exact XS.iloadN X4.here hx rfl (B d5_7) rfl k)
  obtain ⟨cl7, Ar7, q7, Sz7, M7, H7, G7⟩ := id VV
  have hin7 : ¬ (p1 < 0 ∨ cl7.slots.size ≤ (p1).toNatClampNeg) := inb_of Sz7 ⟨h1, h2⟩
  have hat7 : cl7.slots[(p1).toNatClampNeg]? = some (.int bv) := Has.at H7 hin7 hv
  have pre8 : Go p e bl T4 (mkF m 14 #[rv a1, iv p1] [(.int ((bv &&& (255 : Int32)).toUInt32.toUInt16.toUInt32.toInt32))]) s1 EF := fun t k => pre6 t (by
   refine X4.baloadBytes hx (j := p1) (v := (.int bv)) (by rw [e4]; exact Ar7.1) (State.isArrayOf_alike hZ.alike Ar7.2.1) Ar7.2.2 hin7 hat7 (g := (mkF m 8 #[rv a1, iv p1] [(.int p1), (.ref a1)])) rfl rfl (B d5_8) _ ?_
   refine XS.sipush X4.here hx rfl (B d5_9) ?_
   refine XS.iand X4.here hx rfl (B d5_12) rfl ?_
   exact XS.i2c X4.here hx rfl (B d5_13) rfl k)
  have hnr : Value.int (nar .char ((bv &&& (255 : Int32)).toUInt32.toUInt16.toUInt32.toInt32)) = (.int (bv &&& 255)) := by show Value.int (((bv &&& 255).toUInt32.toUInt16.toUInt32.toInt32).toUInt32.toUInt16.toUInt32.toInt32) = _; rw [i2c_mask, i2c_mask]
  exact fin1 X4 (v := some (.int (bv &&& 255))) hrt hlk (wl rfl) (wl rfl) (by rw [e4]; exact ⟨by rw [hR], N4, rfl⟩) (fun fs hr => hEF ▸ pre8 _ (retN X4 hx (t := .char) Bd.returns (by simp) (B d5_14) (hnr ▸ hr)))
abbrev rKJul : Room := { frames := 0, cells := 0, slots := 0, locals := 0 }
theorem d6_0 : decode jdk_52_method_6_code 0 = .ok (.aload_n 0, 1) := by decide +kernel
theorem d6_1 : decode jdk_52_method_6_code 1 = .ok (.arraylength, 1) := by decide +kernel
theorem d6_2 : decode jdk_52_method_6_code 2 = .ok (.iconst 1, 1) := by decide +kernel
theorem d6_3 : decode jdk_52_method_6_code 3 = .ok (.ishr, 1) := by decide +kernel
theorem d6_4 : decode jdk_52_method_6_code 4 = .ok (.ireturn, 1) := by decide +kernel
theorem pn3 : plainName "java/lang/StringUTF16" = true := by first | (simp [plainName, overriddenIn]; done) | decide +kernel
theorem efJul (m : MethodId) (a1 : Addr) : entryFrame m #[(.ref a1)] 1 = mkF m 0 #[rv a1] [] := by first | (simp [entryFrame, mkF, argsToLocals, Value.category]; done) | rfl
def QJul (Z : State) (a1 : Addr) (cz : Int32) (fv : Value) (k : ClassId) (z : Int32) (vs : List Value) (r : Int32) (h0 : Heap) (n0 : Nat) (v : Option Value) (h : Heap) (L : List Loc) : Prop := v = some (.int r) ∧ Fr n0 L ∧ h = h0
set_option maxRecDepth 65536 in
set_option maxHeartbeats 40000000 in
theorem rmJul (l : Launch) (Z : State) (a0 : Array Value) (hw : HW a0 Z) (ws : List Jvm.Cond) (a1 : Addr) (cz : Int32) (fv : Value) (k : ClassId) (z : Int32) (vs : List Value) (r : Int32) (h0 : Heap) (n0 : Nat) (Z0 : n0 ≤ h0.size) (O0 : Old Z n0 h0) (J0 : Jd Z cz fv) (VV : Arv Z h0 a1 k .byte z vs (.int 0)) (hR : z >>> ((1 : Int32) &&& 31) = r) :
    MF l Z mN6 jdk_52_method_6_code 1 (some .int) ws rKJul #[(.ref a1)] h0 (QJul Z a1 cz fv k z vs r h0 n0) := by
  refine MetFree.of_bodySF (plainFor_of_name pn3) hisR ?_
  intro p e s m args bl meth c s1 Bd hml0 hP hK
  obtain ⟨rfl, hZ, hh⟩ := hP
  have hx := Bd.exec
  have hby := Bd.bytes
  have B := @hb c _ hby
  have hown : s.vm.findClass "java/lang/StringUTF16" = some m.cls := findClass_of_methodNamed Bd.named
  have hlk : meth.locks = false := BodyLoose.notSynchronized Bd
  have hrt : ∀ {v : Option Value}, meth.sig.returnType = none → v = none := fun h => by rw [Bd.returns] at h; cases h
  have X0 : Stand p l e rKJul s m #[(.ref a1)] bl meth c s1 [] 0 0 := Stand.of_body Bd
  have e0 : s1.heap = h0 := by rw [← hh, Bd.state]; rfl
  have N0 := Fr.nil n0
  obtain ⟨EF, hEF⟩ : ∃ f, f = entryFrame m #[(.ref a1)] 1 := ⟨_, rfl⟩
  have pre0 : Go p e bl s1 (mkF m 0 #[rv a1] []) s1 EF := fun t k => by rw [hEF]; exact castTop (efJul m a1) k
  have pre1 : Go p e bl s1 (mkF m 1 #[rv a1] [(.ref a1)]) s1 EF := fun t k => pre0 t (by
   exact XS.aloadN X0.here hx rfl (B d6_0) rfl rfl k)
  obtain ⟨cl2, Ar2, q2, Sz2, M2, H2, G2⟩ := id VV
  have pre3 : Go p e bl s1 (mkF m 4 #[rv a1] [(.int (z >>> ((1 : Int32) &&& 31)))]) s1 EF := fun t k => pre1 t (by
   refine X0.arraylength hx (by rw [e0]; exact Ar2.1) (State.isArrayOf_alike hZ.alike Ar2.2.1) (g := (mkF m 1 #[rv a1] [(.ref a1)])) rfl rfl (B d6_1) _ ?_
   rw [len_of Sz2 M2]
   refine XS.iconst X0.here hx rfl (B d6_2) ?_
   exact XS.ishr X0.here hx rfl (B d6_3) rfl k)
  exact fin1 X0 (v := some (.int (z >>> ((1 : Int32) &&& 31)))) hrt hlk (wl rfl) (wl rfl) (by rw [e0]; exact ⟨by rw [hR], N0, rfl⟩) (fun fs hr => hEF ▸ pre3 _ (retOut X0 hx Bd.returns rfl (Or.inl ⟨rfl, Or.inl rfl, _, rfl⟩) (B d6_4) hr))
abbrev rKJuc : Room := { frames := 2, cells := 0, slots := 0, locals := 27 }
theorem d7_0 : decode jdk_52_method_91_code 0 = .ok (.iload_n 0, 1) := by decide +kernel
theorem d7_1 : decode jdk_52_method_91_code 1 = .ok (.aload_n 1, 1) := by decide +kernel
theorem d7_2 : decode jdk_52_method_91_code 2 = .ok (.invokestatic 48, 3) := by decide +kernel
theorem d7_5 : decode jdk_52_method_91_code 5 = .ok (.invokestatic 414, 3) := by decide +kernel
theorem d7_8 : decode jdk_52_method_91_code 8 = .ok (.return_, 1) := by decide +kernel
theorem pd3 : parseMethodDescriptor "([B)I" = some ⟨[(.array .byte)], some .int⟩ := by decide +kernel
theorem efJuc (m : MethodId) (p1 : Int32) (a1 : Addr) : entryFrame m #[(.int p1), (.ref a1)] 2 = mkF m 0 #[iv p1, rv a1] [] := by first | (simp [entryFrame, mkF, argsToLocals, Value.category]; done) | rfl
def QJuc (Z : State) (p1 : Int32) (a1 : Addr) (cz : Int32) (fv : Value) (k : ClassId) (z : Int32) (vs : List Value) (m1 : Int32) (h0 : Heap) (n0 : Nat) (v : Option Value) (h : Heap) (L : List Loc) : Prop := v = none ∧ Fr n0 L ∧ h = h0
set_option maxRecDepth 65536 in
set_option maxHeartbeats 40000000 in
theorem rmJuc (l : Launch) (Z : State) (a0 : Array Value) (hw : HW a0 Z) (ws : List Jvm.Cond) (p1 : Int32) (a1 : Addr) (cz : Int32) (fv : Value) (k : ClassId) (z : Int32) (vs : List Value) (m1 : Int32) (h0 : Heap) (n0 : Nat) (Z0 : n0 ≤ h0.size) (O0 : Old Z n0 h0) (J0 : Jd Z cz fv) (VV : Arv Z h0 a1 k .byte z vs (.int 0)) (hm : z >>> ((1 : Int32) &&& 31) = m1) (h1 : ¬ p1 < 0) (h2 : p1 < m1) :
    MF l Z mN7 jdk_52_method_91_code 2 none ws rKJuc #[(.int p1), (.ref a1)] h0 (QJuc Z p1 a1 cz fv k z vs m1 h0 n0) := by
  refine MetFree.of_bodySF (plainFor_of_name pn3) hisR ?_
  intro p e s m args bl meth c s1 Bd hml0 hP hK
  obtain ⟨rfl, hZ, hh⟩ := hP
  have hx := Bd.exec
  have hby := Bd.bytes
  have B := @hb c _ hby
  have hM := fun {n : Nat} (h : n = 2) => h.trans hml0.symm
  have hown : s.vm.findClass "java/lang/StringUTF16" = some m.cls := findClass_of_methodNamed Bd.named
  have hlk : meth.locks = false := BodyLoose.notSynchronized Bd
  have X0 : Stand p l e rKJuc s m #[(.int p1), (.ref a1)] bl meth c s1 [] 0 0 := Stand.of_body Bd
  have e0 : s1.heap = h0 := by rw [← hh, Bd.state]; rfl
  have N0 := Fr.nil n0
  obtain ⟨EF, hEF⟩ : ∃ f, f = entryFrame m #[(.int p1), (.ref a1)] 2 := ⟨_, rfl⟩
  have pre0 : Go p e bl s1 (mkF m 0 #[iv p1, rv a1] []) s1 EF := fun t k => by rw [hEF]; exact castTop (efJuc m p1 a1) k
  have pre1 : Go p e bl s1 (mkF m 2 #[iv p1, rv a1] [(.ref a1), (.int p1)]) s1 EF := fun t k => pre0 t (by
   refine XS.iloadN X0.here hx rfl (B d7_0) rfl ?_
   exact XS.aloadN X0.here hx rfl (B d7_1) rfl rfl k)
  obtain ⟨_, _, ⟨T2, L2, k2, n2⟩, -, X2, ⟨Lc2, hQ2, l2, y2, z2⟩, st2⟩ := Jvm.LawKit.callS X0 hx (y := mN6) hown (mvT hZ (hw _ (mW 108 rfl))) (mvT hZ (hw _ (mW 109 rfl))) (mvT hZ (hw _ (mW 45 rfl))) (mvT hZ (hw _ (mW 110 rfl))) (by decide) (backOf (W := 1) (rmJul l Z a0 hw [] a1 cz fv k z vs m1 h0 n0 Z0 O0 J0 VV hm) hZ (hw _ (mW 110 rfl)) (hw _ (mW 45 rfl)) (by decide) (by decide)) (g := (mkF m 2 #[iv p1, rv a1] [(.ref a1), (.int p1)])) rfl (hM rfl) (argsL := [(.ref a1)]) (rest := [(.int p1)]) (lenOf pd3 rfl) rfl (Nat.le_of_eq rfl) (B d7_2) (fun _ _ => ⟨rfl, e0, wl rfl, wl rfl⟩)
  dsimp only [Pt.U, Pt.locs, Pt.cells, Pt.slots] at X2 l2 y2 z2 st2 hQ2
  subst l2 y2 z2
  obtain ⟨rfl, N2q, hq2⟩ := hQ2
  have N2 := Fr.app N0 N2q
  have pre3 : Go p e bl T2 (mkF m 5 #[iv p1, rv a1] [(.int m1), (.int p1)]) s1 EF := fun t k => pre1 t (st2 t k)
  have e2 : T2.heap = h0 := hq2
  obtain ⟨_, _, ⟨T4, L4, k4, n4⟩, -, X4, ⟨Lc4, hQ4, l4, y4, z4⟩, st4⟩ := Jvm.LawKit.callS X2 hx (y := mN4) hown (mvT hZ (hw _ (mW 111 rfl))) (mvT hZ (hw _ (mW 71 rfl))) (mvT hZ (hw _ (mW 8 rfl))) (mvT hZ (hw _ (mW 72 rfl))) (by decide) (backOf (W := 0) (rmJci l Z a0 hw [] p1 m1 cz fv  h0 n0 Z0 O0 J0 h1 h2) hZ (hw _ (mW 72 rfl)) (hw _ (mW 8 rfl)) (by decide) (by decide)) (g := (mkF m 5 #[iv p1, rv a1] [(.int m1), (.int p1)])) rfl (hM rfl) (argsL := [(.int p1), (.int m1)]) (rest := []) (lenOf pd2 rfl) rfl (Nat.le_of_eq rfl) (B d7_5) (fun _ _ => ⟨rfl, e2, wl rfl, wl rfl⟩)
  dsimp only [Pt.U, Pt.locs, Pt.cells, Pt.slots] at X4 l4 y4 z4 st4 hQ4
  subst l4 y4 z4
  obtain ⟨rfl, N4q, hq4⟩ := hQ4
  have N4 := Fr.app N2 N4q
  have pre5 : Go p e bl T4 (mkF m 8 #[iv p1, rv a1] []) s1 EF := fun t k => pre3 t (st4 t k)
  have e4 : T4.heap = h0 := hq4
  exact fin1 X4 (v := none) (fun _ => rfl) hlk (wl rfl) (wl rfl) (by rw [e4]; exact ⟨rfl, N4, rfl⟩) (fun fs hr => hEF ▸ pre5 _ (X4.returnOut hx Bd.returns (B d7_8) hr))
abbrev rKJgc : Room := { frames := 0, cells := 0, slots := 0, locals := 0 }
theorem d8_0 : decode jdk_52_method_5_code 0 = .ok (.getstatic 44, 3) := by decide +kernel
theorem d8_3 : decode jdk_52_method_5_code 3 = .ok (.ifCond .ne 25, 3) := by decide +kernel
theorem d8_28 : decode jdk_52_method_5_code 28 = .ok (.iload_n 1, 1) := by decide +kernel
theorem d8_29 : decode jdk_52_method_5_code 29 = .ok (.iconst 1, 1) := by decide +kernel
theorem d8_30 : decode jdk_52_method_5_code 30 = .ok (.ishl, 1) := by decide +kernel
theorem d8_31 : decode jdk_52_method_5_code 31 = .ok (.istore_n 1, 1) := by decide +kernel
theorem d8_32 : decode jdk_52_method_5_code 32 = .ok (.aload_n 0, 1) := by decide +kernel
theorem d8_33 : decode jdk_52_method_5_code 33 = .ok (.iload_n 1, 1) := by decide +kernel
theorem d8_34 : decode jdk_52_method_5_code 34 = .ok (.iinc 1 1, 3) := by decide +kernel
theorem d8_37 : decode jdk_52_method_5_code 37 = .ok (.baload, 1) := by decide +kernel
theorem d8_38 : decode jdk_52_method_5_code 38 = .ok (.sipush 255, 3) := by decide +kernel
theorem d8_41 : decode jdk_52_method_5_code 41 = .ok (.iand, 1) := by decide +kernel
theorem d8_42 : decode jdk_52_method_5_code 42 = .ok (.getstatic 59, 3) := by decide +kernel
theorem d8_45 : decode jdk_52_method_5_code 45 = .ok (.ishl, 1) := by decide +kernel
theorem d8_46 : decode jdk_52_method_5_code 46 = .ok (.aload_n 0, 1) := by decide +kernel
theorem d8_47 : decode jdk_52_method_5_code 47 = .ok (.iload_n 1, 1) := by decide +kernel
theorem d8_48 : decode jdk_52_method_5_code 48 = .ok (.baload, 1) := by decide +kernel
theorem d8_49 : decode jdk_52_method_5_code 49 = .ok (.sipush 255, 3) := by decide +kernel
theorem d8_52 : decode jdk_52_method_5_code 52 = .ok (.iand, 1) := by decide +kernel
theorem d8_53 : decode jdk_52_method_5_code 53 = .ok (.getstatic 63, 3) := by decide +kernel
theorem d8_56 : decode jdk_52_method_5_code 56 = .ok (.ishl, 1) := by decide +kernel
theorem d8_57 : decode jdk_52_method_5_code 57 = .ok (.ior, 1) := by decide +kernel
theorem d8_58 : decode jdk_52_method_5_code 58 = .ok (.i2c, 1) := by decide +kernel
theorem d8_59 : decode jdk_52_method_5_code 59 = .ok (.ireturn, 1) := by decide +kernel
theorem efJgc (m : MethodId) (a1 : Addr) (p1 : Int32) : entryFrame m #[(.ref a1), (.int p1)] 2 = mkF m 0 #[rv a1, iv p1] [] := by first | (simp [entryFrame, mkF, argsToLocals, Value.category]; done) | rfl
def QJgc (Z : State) (a1 : Addr) (p1 : Int32) (cz : Int32) (fv : Value) (k : ClassId) (z : Int32) (vs : List Value) (c1 : Int32) (r : Int32) (h0 : Heap) (n0 : Nat) (v : Option Value) (h : Heap) (L : List Loc) : Prop := v = some (.int r) ∧ Fr n0 L ∧ h = h0
set_option maxRecDepth 65536 in
set_option maxHeartbeats 40000000 in
theorem rmJgc (l : Launch) (Z : State) (a0 : Array Value) (hw : HW a0 Z) (ws : List Jvm.Cond) (a1 : Addr) (p1 : Int32) (cz : Int32) (fv : Value) (k : ClassId) (z : Int32) (vs : List Value) (c1 : Int32) (r : Int32) (h0 : Heap) (n0 : Nat) (Z0 : n0 ≤ h0.size) (O0 : Old Z n0 h0) (J0 : Jd Z cz fv) (VV : Arv Z h0 a1 k .byte z vs (.int 0)) (g1 : ¬ (p1 <<< ((1 : Int32) &&& 31)) < 0 ∧ (p1 <<< ((1 : Int32) &&& 31)) < z) (g2 : vs.getD (p1 <<< ((1 : Int32) &&& 31)).toNatClampNeg (.int 0) = .int (lo8 c1)) (g3 : ¬ ((p1 <<< ((1 : Int32) &&& 31)) + (1 : Int32)) < 0 ∧ ((p1 <<< ((1 : Int32) &&& 31)) + (1 : Int32)) < z) (g4 : vs.getD ((p1 <<< ((1 : Int32) &&& 31)) + (1 : Int32)).toNatClampNeg (.int 0) = .int (hi8 c1)) (hc1 : 0 ≤ c1.toInt) (hc2 : c1.toInt < 65536) (hR : c1 = r) :
    MF l Z mN8 jdk_52_method_5_code 2 (some .char) ws rKJgc #[(.ref a1), (.int p1)] h0 (QJgc Z a1 p1 cz fv k z vs c1 r h0 n0) := by
  refine MetFree.of_bodySF (plainFor_of_name pn3) hisR ?_
  intro p e s m args bl meth c s1 Bd hml0 hP hK
  obtain ⟨rfl, hZ, hh⟩ := hP
  have hx := Bd.exec
  have hby := Bd.bytes
  have B := @hb c _ hby
  have hown : s.vm.findClass "java/lang/StringUTF16" = some m.cls := findClass_of_methodNamed Bd.named
  have hlk : meth.locks = false := BodyLoose.notSynchronized Bd
  have hrt : ∀ {v : Option Value}, meth.sig.returnType = none → v = none := fun h => by rw [Bd.returns] at h; cases h
  have X0 : Stand p l e rKJgc s m #[(.ref a1), (.int p1)] bl meth c s1 [] 0 0 := Stand.of_body Bd
  have e0 : s1.heap = h0 := by rw [← hh, Bd.state]; rfl
  have N0 := Fr.nil n0
  obtain ⟨EF, hEF⟩ : ∃ f, f = entryFrame m #[(.ref a1), (.int p1)] 2 := ⟨_, rfl⟩
  have pre0 : Go p e bl s1 (mkF m 0 #[rv a1, iv p1] []) s1 EF := fun t k => by rw [hEF]; exact castTop (efJgc m a1 p1) k
  obtain ⟨T1, X1, e1, st1⟩ := getS2 X0 hx hZ hown (host := "") (Or.inl (hw _ (mW 96 rfl))) Via.refl e0 (J0.2.2.2.1.ext O0.2) (g := (mkF m 0 #[rv a1, iv p1] [])) rfl (B d8_0)
  have pre2 : Go p e bl T1 (mkF m 3 #[rv a1, iv p1] [(.int (1 : Int32))]) s1 EF := fun t k => pre0 t (st1 t k)
  have pre3 : Go p e bl T1 (mkF m 28 #[rv a1, iv p1] []) s1 EF := fun t k => pre2 t (XS.ifYes X1.here hx rfl (pc0 := 3) (pc' := 28) rfl (B d8_3) rfl ((if0 _ _).trans (feq (by decide : ¬ ((1 : Int32) = (0 : Int32)))).2) (by decide) (by decide) k)
  have pre4 : Go p e bl T1 (mkF m 37 #[rv a1, iv ((p1 <<< ((1 : Int32) &&& 31)) + (1 : Int32))] [(.int (p1 <<< ((1 : Int32) &&& 31))), (.ref a1)]) s1 EF := fun t k => pre3 t (by
   refine XS.iloadN X1.here hx rfl (B d8_28) rfl ?_
   refine XS.iconst X1.here hx rfl (B d8_29) ?_
   refine XS.ishl X1.here hx rfl (B d8_30) rfl ?_
   refine XS.istoreN X1.here hx rfl (B d8_31) rfl (l' := #[rv a1, iv (p1 <<< ((1 : Int32) &&& 31))]) rfl ?_
   refine XS.aloadN X1.here hx rfl (B d8_32) rfl rfl ?_
   refine XS.iloadN X1.here hx rfl (B d8_33) rfl ?_
   exact XS.iinc X1.here hx rfl (B d8_34) rfl (l' := #[rv a1, iv ((p1 <<< ((1 : Int32) &&& 31)) + (1 : Int32))]) rfl k)
  obtain ⟨cl5, Ar5, q5, Sz5, M5, H5, G5⟩ := id VV
  have hin5 : ¬ ((p1 <<< ((1 : Int32) &&& 31)) < 0 ∨ cl5.slots.size ≤ ((p1 <<< ((1 : Int32) &&& 31))).toNatClampNeg) := inb_of Sz5 g1
  have hat5 : cl5.slots[((p1 <<< ((1 : Int32) &&& 31))).toNatClampNeg]? = some (.int (lo8 c1)) := Has.at H5 hin5 g2
  have pre6 : Go p e bl T1 (mkF m 42 #[rv a1, iv ((p1 <<< ((1 : Int32) &&& 31)) + (1 : Int32))] [(.int ((lo8 c1) &&& (255 : Int32)))]) s1 EF := fun t k => pre4 t (by
   refine X1.baloadBytes hx (j := (p1 <<< ((1 : Int32) &&& 31))) (v := (.int (lo8 c1))) (by rw [e1]; exact Ar5.1) (State.isArrayOf_alike hZ.alike Ar5.2.1) Ar5.2.2 hin5 hat5 (g := (mkF m 37 #[rv a1, iv ((p1 <<< ((1 : Int32) &&& 31)) + (1 : Int32))] [(.int (p1 <<< ((1 : Int32) &&& 31))), (.ref a1)])) rfl rfl (B d8_37) _ ?_
   refine XS.sipush X1.here hx rfl (B d8_38) ?_
   exact XS.iand X1.here hx rfl (B d8_41) rfl k)
  obtain ⟨T7, X7, e7, st7⟩ := getS2 X1 hx hZ hown (host := "") (Or.inl (hw _ (mW 97 rfl))) Via.refl e1 (J0.2.2.2.2.1.ext O0.2) (g := (mkF m 42 #[rv a1, iv ((p1 <<< ((1 : Int32) &&& 31)) + (1 : Int32))] [(.int ((lo8 c1) &&& (255 : Int32)))])) rfl (B d8_42)
  have pre8 : Go p e bl T7 (mkF m 45 #[rv a1, iv ((p1 <<< ((1 : Int32) &&& 31)) + (1 : Int32))] [(.int (0 : Int32)), (.int ((lo8 c1) &&& (255 : Int32)))]) s1 EF := fun t k => pre6 t (st7 t k)
  have pre9 : Go p e bl T7 (mkF m 48 #[rv a1, iv ((p1 <<< ((1 : Int32) &&& 31)) + (1 : Int32))] [(.int ((p1 <<< ((1 : Int32) &&& 31)) + (1 : Int32))), (.ref a1), (.int (((lo8 c1) &&& (255 : Int32)) <<< ((0 : Int32) &&& 31)))]) s1 EF := fun t k => pre8 t (by
   refine XS.ishl X7.here hx rfl (B d8_45) rfl ?_
   refine XS.aloadN X7.here hx rfl (B d8_46) rfl rfl ?_
   exact XS.iloadN X7.here hx rfl (B d8_47) rfl k)
  obtain ⟨cl10, Ar10, q10, Sz10, M10, H10, G10⟩ := id VV
  have hin10 : ¬ (((p1 <<< ((1 : Int32) &&& 31)) + (1 : Int32)) < 0 ∨ cl10.slots.size ≤ (((p1 <<< ((1 : Int32) &&& 31)) + (1 : Int32))).toNatClampNeg) := inb_of Sz10 g3
  have hat10 : cl10.slots[(((p1 <<< ((1 : Int32) &&& 31)) + (1 : Int32))).toNatClampNeg]? = some (.int (hi8 c1)) := Has.at H10 hin10 g4
  have pre11 : Go p e bl T7 (mkF m 53 #[rv a1, iv ((p1 <<< ((1 : Int32) &&& 31)) + (1 : Int32))] [(.int ((hi8 c1) &&& (255 : Int32))), (.int (((lo8 c1) &&& (255 : Int32)) <<< ((0 : Int32) &&& 31)))]) s1 EF := fun t k => pre9 t (by
   refine X7.baloadBytes hx (j := ((p1 <<< ((1 : Int32) &&& 31)) + (1 : Int32))) (v := (.int (hi8 c1))) (by rw [e7]; exact Ar10.1) (State.isArrayOf_alike hZ.alike Ar10.2.1) Ar10.2.2 hin10 hat10 (g := (mkF m 48 #[rv a1, iv ((p1 <<< ((1 : Int32) &&& 31)) + (1 : Int32))] [(.int ((p1 <<< ((1 : Int32) &&& 31)) + (1 : Int32))), (.ref a1), (.int (((lo8 c1) &&& (255 : Int32)) <<< ((0 : Int32) &&& 31)))])) rfl rfl (B d8_48) _ ?_
   refine XS.sipush X7.here hx rfl (B d8_49) ?_
   exact XS.iand X7.here hx rfl (B d8_52) rfl k)
  obtain ⟨T12, X12, e12, st12⟩ := getS2 X7 hx hZ hown (host := "") (Or.inl (hw _ (mW 98 rfl))) Via.refl e7 (J0.2.2.2.2.2.1.ext O0.2) (g := (mkF m 53 #[rv a1, iv ((p1 <<< ((1 : Int32) &&& 31)) + (1 : Int32))] [(.int ((hi8 c1) &&& (255 : Int32))), (.int (((lo8 c1) &&& (255 : Int32)) <<< ((0 : Int32) &&& 31)))])) rfl (B d8_53)
  have pre13 : Go p e bl T12 (mkF m 56 #[rv a1, iv ((p1 <<< ((1 : Int32) &&& 31)) + (1 : Int32))] [(.int (8 : Int32)), (.int ((hi8 c1) &&& (255 : Int32))), (.int (((lo8 c1) &&& (255 : Int32)) <<< ((0 : Int32) &&& 31)))]) s1 EF := fun t k => pre11 t (st12 t k)
  have pre14 : Go p e bl T12 (mkF m 59 #[rv a1, iv ((p1 <<< ((1 : Int32) &&& 31)) + (1 : Int32))] [(.int (((((lo8 c1) &&& (255 : Int32)) <<< ((0 : Int32) &&& 31)) ||| (((hi8 c1) &&& (255 : Int32)) <<< ((8 : Int32) &&& 31))).toUInt32.toUInt16.toUInt32.toInt32))]) s1 EF := fun t k => pre13 t (by
   refine XS.ishl X12.here hx rfl (B d8_56) rfl ?_
   refine XS.ior X12.here hx rfl (B d8_57) rfl ?_
   exact XS.i2c X12.here hx rfl (B d8_58) rfl k)
  have hnr : Value.int (nar .char (((((lo8 c1) &&& (255 : Int32)) <<< ((0 : Int32) &&& 31)) ||| (((hi8 c1) &&& (255 : Int32)) <<< ((8 : Int32) &&& 31))).toUInt32.toUInt16.toUInt32.toInt32)) = (.int c1) := by rw [own_get hc1 hc2, own_nc hc1 hc2]
  exact fin1 X12 (v := some (.int c1)) hrt hlk (wl rfl) (wl rfl) (by rw [e12]; exact ⟨by rw [hR], N0, rfl⟩) (fun fs hr => hEF ▸ pre14 _ (retN X12 hx (t := .char) Bd.returns (by simp) (B d8_59) (hnr ▸ hr)))
abbrev rKJu1 : Room := { frames := 3, cells := 0, slots := 0, locals := 40 }
theorem d9_0 : decode jdk_52_method_83_code 0 = .ok (.iload_n 1, 1) := by decide +kernel
theorem d9_1 : decode jdk_52_method_83_code 1 = .ok (.aload_n 0, 1) := by decide +kernel
theorem d9_2 : decode jdk_52_method_83_code 2 = .ok (.invokestatic 67, 3) := by decide +kernel
theorem d9_5 : decode jdk_52_method_83_code 5 = .ok (.aload_n 0, 1) := by decide +kernel
theorem d9_6 : decode jdk_52_method_83_code 6 = .ok (.iload_n 1, 1) := by decide +kernel
theorem d9_7 : decode jdk_52_method_83_code 7 = .ok (.invokestatic 71, 3) := by decide +kernel
theorem d9_10 : decode jdk_52_method_83_code 10 = .ok (.ireturn, 1) := by decide +kernel
theorem pd4 : parseMethodDescriptor "(I[B)V" = some ⟨[.int, (.array .byte)], none⟩ := by decide +kernel
theorem pd5 : parseMethodDescriptor "([BI)C" = some ⟨[(.array .byte), .int], some .char⟩ := by decide +kernel
theorem efJu1 (m : MethodId) (a1 : Addr) (p1 : Int32) : entryFrame m #[(.ref a1), (.int p1)] 2 = mkF m 0 #[rv a1, iv p1] [] := by first | (simp [entryFrame, mkF, argsToLocals, Value.category]; done) | rfl
def QJu1 (Z : State) (a1 : Addr) (p1 : Int32) (cz : Int32) (fv : Value) (k : ClassId) (z : Int32) (vs : List Value) (c1 : Int32) (r : Int32) (m1 : Int32) (h0 : Heap) (n0 : Nat) (v : Option Value) (h : Heap) (L : List Loc) : Prop := v = some (.int r) ∧ Fr n0 L ∧ h = h0
set_option maxRecDepth 65536 in
set_option maxHeartbeats 40000000 in
theorem rmJu1 (l : Launch) (Z : State) (a0 : Array Value) (hw : HW a0 Z) (ws : List Jvm.Cond) (a1 : Addr) (p1 : Int32) (cz : Int32) (fv : Value) (k : ClassId) (z : Int32) (vs : List Value) (c1 : Int32) (r : Int32) (m1 : Int32) (h0 : Heap) (n0 : Nat) (Z0 : n0 ≤ h0.size) (O0 : Old Z n0 h0) (J0 : Jd Z cz fv) (VV : Arv Z h0 a1 k .byte z vs (.int 0)) (g1 : ¬ (p1 <<< ((1 : Int32) &&& 31)) < 0 ∧ (p1 <<< ((1 : Int32) &&& 31)) < z) (g2 : vs.getD (p1 <<< ((1 : Int32) &&& 31)).toNatClampNeg (.int 0) = .int (lo8 c1)) (g3 : ¬ ((p1 <<< ((1 : Int32) &&& 31)) + (1 : Int32)) < 0 ∧ ((p1 <<< ((1 : Int32) &&& 31)) + (1 : Int32)) < z) (g4 : vs.getD ((p1 <<< ((1 : Int32) &&& 31)) + (1 : Int32)).toNatClampNeg (.int 0) = .int (hi8 c1)) (hc1 : 0 ≤ c1.toInt) (hc2 : c1.toInt < 65536) (hR : c1 = r) (hm : z >>> ((1 : Int32) &&& 31) = m1) (h1 : ¬ p1 < 0) (h2 : p1 < m1) :
    MF l Z mN9 jdk_52_method_83_code 2 (some .char) ws rKJu1 #[(.ref a1), (.int p1)] h0 (QJu1 Z a1 p1 cz fv k z vs c1 r m1 h0 n0) := by
  refine MetFree.of_bodySF (plainFor_of_name pn3) hisR ?_
  intro p e s m args bl meth c s1 Bd hml0 hP hK
  obtain ⟨rfl, hZ, hh⟩ := hP
  have hx := Bd.exec
  have hby := Bd.bytes
  have B := @hb c _ hby
  have hM := fun {n : Nat} (h : n = 2) => h.trans hml0.symm
  have hown : s.vm.findClass "java/lang/StringUTF16" = some m.cls := findClass_of_methodNamed Bd.named
  have hlk : meth.locks = false := BodyLoose.notSynchronized Bd
  have hrt : ∀ {v : Option Value}, meth.sig.returnType = none → v = none := fun h => by rw [Bd.returns] at h; cases h
  have X0 : Stand p l e rKJu1 s m #[(.ref a1), (.int p1)] bl meth c s1 [] 0 0 := Stand.of_body Bd
  have e0 : s1.heap = h0 := by rw [← hh, Bd.state]; rfl
  have N0 := Fr.nil n0
  obtain ⟨EF, hEF⟩ : ∃ f, f = entryFrame m #[(.ref a1), (.int p1)] 2 := ⟨_, rfl⟩
  have pre0 : Go p e bl s1 (mkF m 0 #[rv a1, iv p1] []) s1 EF := fun t k => by rw [hEF]; exact castTop (efJu1 m a1 p1) k
  have pre1 : Go p e bl s1 (mkF m 2 #[rv a1, iv p1] [(.ref a1), (.int p1)]) s1 EF := fun t k => pre0 t (by
   refine XS.iloadN X0.here hx rfl (B d9_0) rfl ?_
   exact XS.aloadN X0.here hx rfl (B d9_1) rfl rfl k)
  obtain ⟨_, _, ⟨T2, L2, k2, n2⟩, -, X2, ⟨Lc2, hQ2, l2, y2, z2⟩, st2⟩ := Jvm.LawKit.callS X0 hx (y := mN7) hown (mvT hZ (hw _ (mW 105 rfl))) (mvT hZ (hw _ (mW 106 rfl))) (mvT hZ (hw _ (mW 45 rfl))) (mvT hZ (hw _ (mW 107 rfl))) (by decide) (backOf (W := 0) (rmJuc l Z a0 hw [] p1 a1 cz fv k z vs m1 h0 n0 Z0 O0 J0 VV hm h1 h2) hZ (hw _ (mW 107 rfl)) (hw _ (mW 45 rfl)) (by decide) (by decide)) (g := (mkF m 2 #[rv a1, iv p1] [(.ref a1), (.int p1)])) rfl (hM rfl) (argsL := [(.int p1), (.ref a1)]) (rest := []) (lenOf pd4 rfl) rfl (Nat.le_of_eq rfl) (B d9_2) (fun _ _ => ⟨rfl, e0, wl rfl, wl rfl⟩)
  dsimp only [Pt.U, Pt.locs, Pt.cells, Pt.slots] at X2 l2 y2 z2 st2 hQ2
  subst l2 y2 z2
  obtain ⟨rfl, N2q, hq2⟩ := hQ2
  have N2 := Fr.app N0 N2q
  have pre3 : Go p e bl T2 (mkF m 5 #[rv a1, iv p1] []) s1 EF := fun t k => pre1 t (st2 t k)
  have e2 : T2.heap = h0 := hq2
  have pre4 : Go p e bl T2 (mkF m 7 #[rv a1, iv p1] [(.int p1), (.ref a1)]) s1 EF := fun t k => pre3 t (by
   refine XS.aloadN X2.here hx rfl (B d9_5) rfl rfl ?_
   exact XS.iloadN X2.here hx rfl (B d9_6) rfl k)
  obtain ⟨_, _, ⟨T5, L5, k5, n5⟩, -, X5, ⟨Lc5, hQ5, l5, y5, z5⟩, st5⟩ := Jvm.LawKit.callS X2 hx (y := mN8) hown (mvT hZ (hw _ (mW 99 rfl))) (mvT hZ (hw _ (mW 100 rfl))) (mvT hZ (hw _ (mW 45 rfl))) (mvT hZ (hw _ (mW 101 rfl))) (by decide) (backOf (W := 0) (rmJgc l Z a0 hw [] a1 p1 cz fv k z vs c1 r h0 n0 Z0 O0 J0 VV g1 g2 g3 g4 hc1 hc2 hR) hZ (hw _ (mW 101 rfl)) (hw _ (mW 45 rfl)) (by decide) (by decide)) (g := (mkF m 7 #[rv a1, iv p1] [(.int p1), (.ref a1)])) rfl (hM rfl) (argsL := [(.ref a1), (.int p1)]) (rest := []) (lenOf pd5 rfl) rfl (Nat.le_of_eq rfl) (B d9_7) (fun _ _ => ⟨rfl, e2, wl rfl, wl rfl⟩)
  dsimp only [Pt.U, Pt.locs, Pt.cells, Pt.slots] at X5 l5 y5 z5 st5 hQ5
  subst l5 y5 z5
  obtain ⟨rfl, N5q, hq5⟩ := hQ5
  have N5 := Fr.app N2 N5q
  have pre6 : Go p e bl T5 (mkF m 10 #[rv a1, iv p1] [(.int r)]) s1 EF := fun t k => pre4 t (st5 t k)
  have e5 : T5.heap = h0 := hq5
  have hnr : Value.int (nar .char r) = (.int r) := by rw [← hR, own_nc hc1 hc2]
  exact fin1 X5 (v := some (.int r)) hrt hlk (wl rfl) (wl rfl) (by rw [e5]; exact ⟨rfl, N5, rfl⟩) (fun fs hr => hEF ▸ pre6 _ (retN X5 hx (t := .char) Bd.returns (by simp) (B d9_10) (hnr ▸ hr)))
abbrev rKJcu : Room := { frames := 4, cells := 0, slots := 0, locals := 53 }
theorem d10_0 : decode jdk_42_method_56_code 0 = .ok (.aload_n 0, 1) := by decide +kernel
theorem d10_1 : decode jdk_42_method_56_code 1 = .ok (.invokevirtual 492, 3) := by decide +kernel
theorem d10_4 : decode jdk_42_method_56_code 4 = .ok (.ifCond .eq 12, 3) := by decide +kernel
theorem d10_16 : decode jdk_42_method_56_code 16 = .ok (.aload_n 0, 1) := by decide +kernel
theorem d10_17 : decode jdk_42_method_56_code 17 = .ok (.getfield 9, 3) := by decide +kernel
theorem d10_20 : decode jdk_42_method_56_code 20 = .ok (.iload_n 1, 1) := by decide +kernel
theorem d10_21 : decode jdk_42_method_56_code 21 = .ok (.invokestatic 498, 3) := by decide +kernel
theorem d10_24 : decode jdk_42_method_56_code 24 = .ok (.ireturn, 1) := by decide +kernel
theorem pd6 : parseMethodDescriptor "()Z" = some ⟨[], some .boolean⟩ := by decide +kernel
theorem efJcu (m : MethodId) (a1 : Addr) (p1 : Int32) : entryFrame m #[(.ref a1), (.int p1)] 2 = mkF m 0 #[rv a1, iv p1] [] := by first | (simp [entryFrame, mkF, argsToLocals, Value.category]; done) | rfl
def QJcu (Z : State) (a1 : Addr) (p1 : Int32) (cz : Int32) (fv : Value) (b : Addr) (k : ClassId) (z : Int32) (vs : List Value) (c1 : Int32) (r : Int32) (m1 : Int32) (h0 : Heap) (n0 : Nat) (v : Option Value) (h : Heap) (L : List Loc) : Prop := v = some (.int r) ∧ Fr n0 L ∧ h = h0
set_option maxRecDepth 65536 in
set_option maxHeartbeats 40000000 in
theorem rmJcu (l : Launch) (Z : State) (a0 : Array Value) (hw : HW a0 Z) (ws : List Jvm.Cond) (a1 : Addr) (p1 : Int32) (cz : Int32) (fv : Value) (b : Addr) (k : ClassId) (z : Int32) (vs : List Value) (c1 : Int32) (r : Int32) (m1 : Int32) (h0 : Heap) (n0 : Nat) (Z0 : n0 ≤ h0.size) (O0 : Old Z n0 h0) (J0 : Jd Z cz fv) (E1 : Exa Z h0 a1 "java/lang/String") (FC : Fld Z h0 a1 "java/lang/String" "coder" "B" (.int 1)) (FV : Fld Z h0 a1 "java/lang/String" "value" "[B" (.ref b)) (VV : Arv Z h0 b k .byte z vs (.int 0)) (g1 : ¬ (p1 <<< ((1 : Int32) &&& 31)) < 0 ∧ (p1 <<< ((1 : Int32) &&& 31)) < z) (g2 : vs.getD (p1 <<< ((1 : Int32) &&& 31)).toNatClampNeg (.int 0) = .int (lo8 c1)) (g3 : ¬ ((p1 <<< ((1 : Int32) &&& 31)) + (1 : Int32)) < 0 ∧ ((p1 <<< ((1 : Int32) &&& 31)) + (1 : Int32)) < z) (g4 : vs.getD ((p1 <<< ((1 : Int32) &&& 31)) + (1 : Int32)).toNatClampNeg (.int 0) = .int (hi8 c1)) (hc1 : 0 ≤ c1.toInt) (hc2 : c1.toInt < 65536) (hR : c1 = r) (hm : z >>> ((1 : Int32) &&& 31) = m1) (h1 : ¬ p1 < 0) (h2 : p1 < m1) (hnr0 : nar .char r = r) :
    MF l Z mN10 jdk_42_method_56_code 2 (some .char) ws rKJcu #[(.ref a1), (.int p1)] h0 (QJcu Z a1 p1 cz fv b k z vs c1 r m1 h0 n0) := by
  refine MetFree.of_bodySF (plainFor_of_name pn0) hisR ?_
  intro p e s m args bl meth c s1 Bd hml0 hP hK
  obtain ⟨rfl, hZ, hh⟩ := hP
  have hx := Bd.exec
  have hby := Bd.bytes
  have B := @hb c _ hby
  have hM := fun {n : Nat} (h : n = 2) => h.trans hml0.symm
  have hown : s.vm.findClass "java/lang/String" = some m.cls := findClass_of_methodNamed Bd.named
  have hlk : meth.locks = false := BodyLoose.notSynchronized Bd
  have hrt : ∀ {v : Option Value}, meth.sig.returnType = none → v = none := fun h => by rw [Bd.returns] at h; cases h
  have X0 : Stand p l e rKJcu s m #[(.ref a1), (.int p1)] bl meth c s1 [] 0 0 := Stand.of_body Bd
  have e0 : s1.heap = h0 := by rw [← hh, Bd.state]; rfl
  have N0 := Fr.nil n0
  obtain ⟨EF, hEF⟩ : ∃ f, f = entryFrame m #[(.ref a1), (.int p1)] 2 := ⟨_, rfl⟩
  have pre0 : Go p e bl s1 (mkF m 0 #[rv a1, iv p1] []) s1 EF := fun t k => by rw [hEF]; exact castTop (efJcu m a1 p1) k
  have pre1 : Go p e bl s1 (mkF m 1 #[rv a1, iv p1] [(.ref a1)]) s1 EF := fun t k => pre0 t (by
   exact XS.aloadN X0.here hx rfl (B d10_0) rfl rfl k)
  obtain ⟨cq2, kq2, q2a, q2b, q2c⟩ := isOf hZ e0 E1
  obtain ⟨_, _, ⟨T2, L2, k2, n2⟩, -, X2, ⟨Lc2, hQ2, l2, y2, z2⟩, st2⟩ := X0.virtualBack hx (y := mN2) (z := mN2) hown (mvT hZ (hw _ (mW 61 rfl))) (mvT hZ (hw _ (mW 62 rfl))) (notFace_of_selects (args := #[]) (mvT hZ (hw _ (mW 64 rfl)))) (mvT hZ (hw _ (mW 64 rfl))) (mvT hZ (hw _ (mW 63 rfl))) (by decide) (backOf (W := 0) (rmJil l Z a0 hw [] a1 cz fv (1 : Int32) (0 : Int32) h0 n0 Z0 O0 J0 FC (by decide)) hZ (hw _ (mW 65 rfl)) (hw _ (mW 8 rfl)) (by decide) (by decide)) q2a q2c (g := (mkF m 1 #[rv a1, iv p1] [(.ref a1)])) rfl (hM rfl) (Steps.refl _) (argsL := []) (rest := []) (lenOf pd6 rfl) rfl (Nat.le_of_eq rfl) (B d10_1) (fun _ _ => ⟨rfl, e0, wl rfl, wl rfl⟩)
  dsimp only [Pt.U, Pt.locs, Pt.cells, Pt.slots] at X2 l2 y2 z2 st2 hQ2
  subst l2 y2 z2
  obtain ⟨rfl, N2q, hq2⟩ := hQ2
  have N2 := Fr.app N0 N2q
  have pre3 : Go p e bl T2 (mkF m 4 #[rv a1, iv p1] [(.int (0 : Int32))]) s1 EF := fun t k => pre1 t (st2.trans k)
  have e2 : T2.heap = h0 := hq2
  have pre4 : Go p e bl T2 (mkF m 16 #[rv a1, iv p1] []) s1 EF := fun t k => pre3 t (XS.ifYes X2.here hx rfl (pc0 := 4) (pc' := 16) rfl (B d10_4) rfl ((if0 _ _).trans (teq (by decide : (0 : Int32) = (0 : Int32))).1) (by decide) (by decide) k)
  have pre5 : Go p e bl T2 (mkF m 17 #[rv a1, iv p1] [(.ref a1)]) s1 EF := fun t k => pre4 t (by
   exact XS.aloadN X2.here hx rfl (B d10_16) rfl rfl k)
  obtain ⟨T6, X6, e6, st6⟩ := getF X2 hx hZ hown (host := "") (Or.inl (hw _ (mW 26 rfl))) Via.refl e2 FV (g := (mkF m 17 #[rv a1, iv p1] [(.ref a1)])) rfl rfl (B d10_17)
  have pre7 : Go p e bl T6 (mkF m 20 #[rv a1, iv p1] [(.ref b)]) s1 EF := fun t k => pre5 t (st6 t k)
  have pre8 : Go p e bl T6 (mkF m 21 #[rv a1, iv p1] [(.int p1), (.ref b)]) s1 EF := fun t k => pre7 t (by
   exact XS.iloadN X6.here hx rfl (B d10_20) rfl k)
  obtain ⟨_, _, ⟨T9, L9, k9, n9⟩, -, X9, ⟨Lc9, hQ9, l9, y9, z9⟩, st9⟩ := Jvm.LawKit.callS X6 hx (y := mN9) hown (mvT hZ (hw _ (mW 102 rfl))) (mvT hZ (hw _ (mW 103 rfl))) (mvT hZ (hw _ (mW 45 rfl))) (mvT hZ (hw _ (mW 104 rfl))) (by decide) (backOf (W := 0) (rmJu1 l Z a0 hw [] b p1 cz fv k z vs c1 r m1 h0 n0 Z0 O0 J0 VV g1 g2 g3 g4 hc1 hc2 hR hm h1 h2) hZ (hw _ (mW 104 rfl)) (hw _ (mW 45 rfl)) (by decide) (by decide)) (g := (mkF m 21 #[rv a1, iv p1] [(.int p1), (.ref b)])) rfl (hM rfl) (argsL := [(.ref b), (.int p1)]) (rest := []) (lenOf pd5 rfl) rfl (Nat.le_of_eq rfl) (B d10_21) (fun _ _ => ⟨rfl, e6, wl rfl, wl rfl⟩)
  dsimp only [Pt.U, Pt.locs, Pt.cells, Pt.slots] at X9 l9 y9 z9 st9 hQ9
  subst l9 y9 z9
  obtain ⟨rfl, N9q, hq9⟩ := hQ9
  have N9 := Fr.app N2 N9q
  have pre10 : Go p e bl T9 (mkF m 24 #[rv a1, iv p1] [(.int r)]) s1 EF := fun t k => pre8 t (st9 t k)
  have e9 : T9.heap = h0 := hq9
  have hnr : Value.int (nar .char r) = (.int r) := by rw [hnr0]
  exact fin1 X9 (v := some (.int r)) hrt hlk (wl rfl) (wl rfl) (by rw [e9]; exact ⟨rfl, N9, rfl⟩) (fun fs hr => hEF ▸ pre10 _ (retN X9 hx (t := .char) Bd.returns (by simp) (B d10_24) (hnr ▸ hr)))
abbrev rKJcl : Room := { frames := 4, cells := 0, slots := 0, locals := 53 }
theorem d10_7 : decode jdk_42_method_56_code 7 = .ok (.aload_n 0, 1) := by decide +kernel
theorem d10_8 : decode jdk_42_method_56_code 8 = .ok (.getfield 9, 3) := by decide +kernel
theorem d10_11 : decode jdk_42_method_56_code 11 = .ok (.iload_n 1, 1) := by decide +kernel
theorem d10_12 : decode jdk_42_method_56_code 12 = .ok (.invokestatic 495, 3) := by decide +kernel
theorem d10_15 : decode jdk_42_method_56_code 15 = .ok (.ireturn, 1) := by decide +kernel
theorem efJcl (m : MethodId) (a1 : Addr) (p1 : Int32) : entryFrame m #[(.ref a1), (.int p1)] 2 = mkF m 0 #[rv a1, iv p1] [] := by first | (simp [entryFrame, mkF, argsToLocals, Value.category]; done) | rfl
def QJcl (Z : State) (a1 : Addr) (p1 : Int32) (cz : Int32) (fv : Value) (b : Addr) (k : ClassId) (z : Int32) (vs : List Value) (bv : Int32) (r : Int32) (h0 : Heap) (n0 : Nat) (v : Option Value) (h : Heap) (L : List Loc) : Prop := v = some (.int r) ∧ Fr n0 L ∧ h = h0
set_option maxRecDepth 65536 in
set_option maxHeartbeats 40000000 in
theorem rmJcl (l : Launch) (Z : State) (a0 : Array Value) (hw : HW a0 Z) (ws : List Jvm.Cond) (a1 : Addr) (p1 : Int32) (cz : Int32) (fv : Value) (b : Addr) (k : ClassId) (z : Int32) (vs : List Value) (bv : Int32) (r : Int32) (h0 : Heap) (n0 : Nat) (Z0 : n0 ≤ h0.size) (O0 : Old Z n0 h0) (J0 : Jd Z cz fv) (E1 : Exa Z h0 a1 "java/lang/String") (FC : Fld Z h0 a1 "java/lang/String" "coder" "B" (.int 0)) (FV : Fld Z h0 a1 "java/lang/String" "value" "[B" (.ref b)) (VV : Arv Z h0 b k .byte z vs (.int 0)) (h1 : ¬ p1 < 0) (h2 : p1 < z) (hv : vs.getD p1.toNatClampNeg (.int 0) = .int bv) (hR : bv &&& 255 = r) (hnr0 : nar .char r = r) :
    MF l Z mN10 jdk_42_method_56_code 2 (some .char) ws rKJcl #[(.ref a1), (.int p1)] h0 (QJcl Z a1 p1 cz fv b k z vs bv r h0 n0) := by
  refine MetFree.of_bodySF (plainFor_of_name pn0) hisR ?_
  intro p e s m args bl meth c s1 Bd hml0 hP hK
  obtain ⟨rfl, hZ, hh⟩ := hP
  have hx := Bd.exec
  have hby := Bd.bytes
  have B := @hb c _ hby
  have hM := fun {n : Nat} (h : n = 2) => h.trans hml0.symm
  have hown : s.vm.findClass "java/lang/String" = some m.cls := findClass_of_methodNamed Bd.named
  have hlk : meth.locks = false := BodyLoose.notSynchronized Bd
  have hrt : ∀ {v : Option Value}, meth.sig.returnType = none → v = none := fun h => by rw [Bd.returns] at h; cases h
  have X0 : Stand p l e rKJcl s m #[(.ref a1), (.int p1)] bl meth c s1 [] 0 0 := Stand.of_body Bd
  have e0 : s1.heap = h0 := by rw [← hh, Bd.state]; rfl
  have N0 := Fr.nil n0
  obtain ⟨EF, hEF⟩ : ∃ f, f = entryFrame m #[(.ref a1), (.int p1)] 2 := ⟨_, rfl⟩
  have pre0 : Go p e bl s1 (mkF m 0 #[rv a1, iv p1] []) s1 EF := fun t k => by rw [hEF]; exact castTop (efJcl m a1 p1) k
  have pre1 : Go p e bl s1 (mkF m 1 #[rv a1, iv p1] [(.ref a1)]) s1 EF := fun t k => pre0 t (by
   exact XS.aloadN X0.here hx rfl (B d10_0) rfl rfl k)
  obtain ⟨cq2, kq2, q2a, q2b, q2c⟩ := isOf hZ e0 E1
  obtain ⟨_, _, ⟨T2, L2, k2, n2⟩, -, X2, ⟨Lc2, hQ2, l2, y2, z2⟩, st2⟩ := X0.virtualBack hx (y := mN2) (z := mN2) hown (mvT hZ (hw _ (mW 61 rfl))) (mvT hZ (hw _ (mW 62 rfl))) (notFace_of_selects (args := #[]) (mvT hZ (hw _ (mW 64 rfl)))) (mvT hZ (hw _ (mW 64 rfl))) (mvT hZ (hw _ (mW 63 rfl))) (by decide) (backOf (W := 0) (rmJil l Z a0 hw [] a1 cz fv (0 : Int32) (1 : Int32) h0 n0 Z0 O0 J0 FC (by decide)) hZ (hw _ (mW 65 rfl)) (hw _ (mW 8 rfl)) (by decide) (by decide)) q2a q2c (g := (mkF m 1 #[rv a1, iv p1] [(.ref a1)])) rfl (hM rfl) (Steps.refl _) (argsL := []) (rest := []) (lenOf pd6 rfl) rfl (Nat.le_of_eq rfl) (B d10_1) (fun _ _ => ⟨rfl, e0, wl rfl, wl rfl⟩)
  dsimp only [Pt.U, Pt.locs, Pt.cells, Pt.slots] at X2 l2 y2 z2 st2 hQ2
  subst l2 y2 z2
  obtain ⟨rfl, N2q, hq2⟩ := hQ2
  have N2 := Fr.app N0 N2q
  have pre3 : Go p e bl T2 (mkF m 4 #[rv a1, iv p1] [(.int (1 : Int32))]) s1 EF := fun t k => pre1 t (st2.trans k)
  have e2 : T2.heap = h0 := hq2
  have pre4 : Go p e bl T2 (mkF m 7 #[rv a1, iv p1] []) s1 EF := fun t k => pre3 t (XS.ifNo X2.here hx rfl (B d10_4) rfl ((if0 _ _).trans (feq (by decide : ¬ ((1 : Int32) = (0 : Int32)))).1) k)
  have pre5 : Go p e bl T2 (mkF m 8 #[rv a1, iv p1] [(.ref a1)]) s1 EF := fun t k => pre4 t (by
   exact XS.aloadN X2.here hx rfl (B d10_7) rfl rfl k)
  obtain ⟨T6, X6, e6, st6⟩ := getF X2 hx hZ hown (host := "") (Or.inl (hw _ (mW 26 rfl))) Via.refl e2 FV (g := (mkF m 8 #[rv a1, iv p1] [(.ref a1)])) rfl rfl (B d10_8)
  have pre7 : Go p e bl T6 (mkF m 11 #[rv a1, iv p1] [(.ref b)]) s1 EF := fun t k => pre5 t (st6 t k)
  have pre8 : Go p e bl T6 (mkF m 12 #[rv a1, iv p1] [(.int p1), (.ref b)]) s1 EF := fun t k => pre7 t (by
   exact XS.iloadN X6.here hx rfl (B d10_11) rfl k)
  obtain ⟨_, _, ⟨T9, L9, k9, n9⟩, -, X9, ⟨Lc9, hQ9, l9, y9, z9⟩, st9⟩ := Jvm.LawKit.callS X6 hx (y := mN5) hown (mvT hZ (hw _ (mW 66 rfl))) (mvT hZ (hw _ (mW 67 rfl))) (mvT hZ (hw _ (mW 68 rfl))) (mvT hZ (hw _ (mW 69 rfl))) (by decide) (backOf (W := 0) (rmJl1 l Z a0 hw [] b p1 cz fv k z vs bv r h0 n0 Z0 O0 J0 VV h1 h2 hv hR) hZ (hw _ (mW 69 rfl)) (hw _ (mW 68 rfl)) (by decide) (by decide)) (g := (mkF m 12 #[rv a1, iv p1] [(.int p1), (.ref b)])) rfl (hM rfl) (argsL := [(.ref b), (.int p1)]) (rest := []) (lenOf pd5 rfl) rfl (Nat.le_of_eq rfl) (B d10_12) (fun _ _ => ⟨rfl, e6, wl rfl, wl rfl⟩)
  dsimp only [Pt.U, Pt.locs, Pt.cells, Pt.slots] at X9 l9 y9 z9 st9 hQ9
  subst l9 y9 z9
  obtain ⟨rfl, N9q, hq9⟩ := hQ9
  have N9 := Fr.app N2 N9q
  have pre10 : Go p e bl T9 (mkF m 15 #[rv a1, iv p1] [(.int r)]) s1 EF := fun t k => pre8 t (st9 t k)
  have e9 : T9.heap = h0 := hq9
  have hnr : Value.int (nar .char r) = (.int r) := by rw [hnr0]
  exact fin1 X9 (v := some (.int r)) hrt hlk (wl rfl) (wl rfl) (by rw [e9]; exact ⟨rfl, N9, rfl⟩) (fun fs hr => hEF ▸ pre10 _ (retN X9 hx (t := .char) Bd.returns (by simp) (B d10_15) (hnr ▸ hr)))
theorem own_idx {p1 : Int32} {n : Nat} (h1 : ¬ p1 < 0) (h : p1.toNatClampNeg < n) : p1.toInt = (p1.toNatClampNeg : Int) := nat_of h1
theorem own_dbl {p1 : Int32} {n : Nat} (h1 : ¬ p1 < 0) (h : p1.toNatClampNeg < n) (hn : n ≤ 4000) : (p1 <<< ((1 : Int32) &&& 31)).toInt = 2 * (p1.toNatClampNeg : Int) ∧ ((p1 <<< ((1 : Int32) &&& 31)) + (1 : Int32)).toInt = 2 * (p1.toNatClampNeg : Int) + 1 := by
  have q := c_ishl p1 1 1 (by decide)
  have p : ((2 ^ 1 : Nat) : Int) = 2 := by decide
  rw [p] at q
  have w := rng32 (p1 <<< ((1 : Int32) &&& 31))
  have i := nat_of h1
  have a : (p1 <<< ((1 : Int32) &&& 31)).toInt = 2 * (p1.toNatClampNeg : Int) := by omega
  have e1 : (1 : Int32).toInt = 1 := by decide
  have q2 := c_iadd (p1 <<< ((1 : Int32) &&& 31)) 1
  have w2 := rng32 ((p1 <<< ((1 : Int32) &&& 31)) + (1 : Int32))
  exact ⟨a, by omega⟩
theorem own_nat {j : Int32} {n : Nat} (h : j.toInt = (n : Int)) : j.toNatClampNeg = n ∧ ¬ j < 0 := by
  have e0 : (0 : Int32).toInt = 0 := by decide
  constructor
  · simp only [Int32.toNatClampNeg, h]; omega
  · rw [Int32.lt_iff_toInt_lt, e0]; omega
def QJC (c : Int32) (h0 : Heap) (n0 : Nat) (v : Option Value) (h : Heap) (L : List Loc) : Prop := v = some (.int c) ∧ Fr n0 L ∧ h = h0
theorem rmJC (l : Launch) (Z : State) (a0 : Array Value) (hw : HW a0 Z) (ws : List Jvm.Cond) (a1 : Addr) (p1 : Int32) (cz : Int32) (fv : Value) (cs : List Int32) (c : Int32) (h0 : Heap) (n0 : Nat) (Z0 : n0 ≤ h0.size) (O0 : Old Z n0 h0) (J0 : Jd Z cz fv) (S : Str Z h0 a1 cs) (h1 : ¬ p1 < 0) (hc : cs[p1.toNatClampNeg]? = some c) :
    MetFree l mN10 (head1 (Jvm.Cond.code mN10 jdk_42_method_56_code 2 (some .char) :: ws) rKJcl) (fun a U => a = #[(.ref a1), (.int p1)] ∧ Z.Warmed39 U.vm ∧ U.heap = h0) (fun _ _ _ _ _ => True) (fun _ U o U' => ∃ v L, o = .returned v ∧ QJC c h0 n0 v U'.heap L ∧ FrameEnd U o U' L rKJcl.cells rKJcl.slots) := by
  obtain ⟨cd, b, k, z, vs, E, FC, FV, VV, hb, h⟩ := S
  have hlt : p1.toNatClampNeg < cs.length := (List.getElem?_eq_some_iff.mp hc).1
  have hi := nat_of h1
  rcases h with ⟨rfl, hz, rfl, hr⟩ | ⟨rfl, hz, rfl, hr⟩
  · have hq := hr c (List.mem_of_getElem? hc)
    exact rmJcl l Z a0 hw ws a1 p1 cz fv b k z _ c.toInt8.toInt32 c h0 n0 Z0 O0 J0 E FC FV VV h1 (by rw [Int32.lt_iff_toInt_lt]; omega) (own_lat_at hc) (own_lat hq.1 hq.2) (own_nc hq.1 (by omega))
  · have hq := hr c (List.mem_of_getElem? hc)
    have hd := own_dbl h1 hlt hb
    have n1 := own_nat (n := 2 * p1.toNatClampNeg) (by rw [hd.1]; omega)
    have n2 := own_nat (n := 2 * p1.toNatClampNeg + 1) (by rw [hd.2]; omega)
    have hv := own_wid_at hc
    refine rmJcu l Z a0 hw ws a1 p1 cz fv b k z _ c c (z >>> ((1 : Int32) &&& 31)) h0 n0 Z0 O0 J0 E FC FV VV ⟨n1.2, by rw [Int32.lt_iff_toInt_lt]; omega⟩ (by rw [n1.1]; exact hv.1) ⟨n2.2, by rw [Int32.lt_iff_toInt_lt]; omega⟩ (by rw [n2.1]; exact hv.2) hq.1 hq.2 rfl rfl h1 ?_ (own_nc hq.1 hq.2)
    have q := c_ishr z 1 1 (by decide)
    have p : ((2 ^ 1 : Nat) : Int) = 2 := by decide
    rw [p] at q; rw [Int32.lt_iff_toInt_lt, q]; omega
theorem own_le {cs : List Int32} (hr : ∀ c ∈ cs, 0 ≤ c.toInt ∧ c.toInt < 65536) (hl : ∀ c ∈ cs, ¬ (255 : Int32) < c) : ∀ c ∈ cs, 0 ≤ c.toInt ∧ c.toInt < 256 := fun c hc => by
  have a := hr c hc
  have b := hl c hc
  have e : (255 : Int32).toInt = 255 := by decide
  rw [Int32.lt_iff_toInt_lt, e] at b
  exact ⟨a.1, by omega⟩
theorem own_gx {cs : List Int32} {z p1 c : Int32} (h1 : ¬ p1 < 0) (hc : cs[p1.toNatClampNeg]? = some c) (hz : z.toInt = 2 * cs.length) (hb : cs.length ≤ 4000) : (¬ (p1 <<< ((1 : Int32) &&& 31)) < 0 ∧ (p1 <<< ((1 : Int32) &&& 31)) < z) ∧ (WidV cs).getD (p1 <<< ((1 : Int32) &&& 31)).toNatClampNeg (.int 0) = .int (lo8 c) ∧ (¬ ((p1 <<< ((1 : Int32) &&& 31)) + (1 : Int32)) < 0 ∧ ((p1 <<< ((1 : Int32) &&& 31)) + (1 : Int32)) < z) ∧ (WidV cs).getD ((p1 <<< ((1 : Int32) &&& 31)) + (1 : Int32)).toNatClampNeg (.int 0) = .int (hi8 c) := by
  have hlt : p1.toNatClampNeg < cs.length := (List.getElem?_eq_some_iff.mp hc).1
  have hd := own_dbl h1 hlt hb
  have n1 := own_nat (n := 2 * p1.toNatClampNeg) (by rw [hd.1]; omega)
  have n2 := own_nat (n := 2 * p1.toNatClampNeg + 1) (by rw [hd.2]; omega)
  have hv := own_wid_at hc
  exact ⟨⟨n1.2, by rw [Int32.lt_iff_toInt_lt]; omega⟩, by rw [n1.1]; exact hv.1, ⟨n2.2, by rw [Int32.lt_iff_toInt_lt]; omega⟩, by rw [n2.1]; exact hv.2⟩
abbrev rKKa1 : Room := { frames := 0, cells := 0, slots := 0, locals := 0 }
theorem d11_0 : decode jdk_52_method_21_code 0 = .ok (.iconst 0, 1) := by decide +kernel
theorem d11_1 : decode jdk_52_method_21_code 1 = .ok (.istore 5, 2) := by decide +kernel
theorem d11_3 : decode jdk_52_method_21_code 3 = .ok (.iload 5, 2) := by decide +kernel
theorem d11_5 : decode jdk_52_method_21_code 5 = .ok (.iload 4, 2) := by decide +kernel
theorem d11_7 : decode jdk_52_method_21_code 7 = .ok (.if_icmp .ge 37, 3) := by decide +kernel
theorem d11_10 : decode jdk_52_method_21_code 10 = .ok (.aload_n 0, 1) := by decide +kernel
theorem d11_11 : decode jdk_52_method_21_code 11 = .ok (.iload_n 1, 1) := by decide +kernel
theorem d11_12 : decode jdk_52_method_21_code 12 = .ok (.caload, 1) := by decide +kernel
theorem d11_13 : decode jdk_52_method_21_code 13 = .ok (.istore 6, 2) := by decide +kernel
theorem d11_15 : decode jdk_52_method_21_code 15 = .ok (.iload 6, 2) := by decide +kernel
theorem d11_17 : decode jdk_52_method_21_code 17 = .ok (.sipush 255, 3) := by decide +kernel
theorem d11_20 : decode jdk_52_method_21_code 20 = .ok (.if_icmp .le 6, 3) := by decide +kernel
theorem d11_23 : decode jdk_52_method_21_code 23 = .ok (.iload 5, 2) := by decide +kernel
theorem d11_25 : decode jdk_52_method_21_code 25 = .ok (.ireturn, 1) := by decide +kernel
theorem d11_26 : decode jdk_52_method_21_code 26 = .ok (.aload_n 2, 1) := by decide +kernel
theorem d11_27 : decode jdk_52_method_21_code 27 = .ok (.iload_n 3, 1) := by decide +kernel
theorem d11_28 : decode jdk_52_method_21_code 28 = .ok (.iload 6, 2) := by decide +kernel
theorem d11_30 : decode jdk_52_method_21_code 30 = .ok (.i2b, 1) := by decide +kernel
theorem d11_31 : decode jdk_52_method_21_code 31 = .ok (.bastore, 1) := by decide +kernel
theorem d11_32 : decode jdk_52_method_21_code 32 = .ok (.iinc 1 1, 3) := by decide +kernel
theorem d11_35 : decode jdk_52_method_21_code 35 = .ok (.iinc 3 1, 3) := by decide +kernel
theorem d11_38 : decode jdk_52_method_21_code 38 = .ok (.iinc 5 1, 3) := by decide +kernel
theorem d11_41 : decode jdk_52_method_21_code 41 = .ok (.goto (-38), 3) := by decide +kernel
theorem d11_44 : decode jdk_52_method_21_code 44 = .ok (.iload 4, 2) := by decide +kernel
theorem d11_46 : decode jdk_52_method_21_code 46 = .ok (.ireturn, 1) := by decide +kernel
theorem efKa1 (m : MethodId) (a1 : Addr) (a2 : Addr) : entryFrame m #[(.ref a1), (.int (0 : Int32)), (.ref a2), (.int (0 : Int32)), (.int (1 : Int32))] 7 = mkF m 0 #[rv a1, iv (0 : Int32), rv a2, iv (0 : Int32), iv (1 : Int32), .unset, .unset] [] := by first | (simp [entryFrame, mkF, argsToLocals, Value.category]; done) | rfl
def QKa1 (Z : State) (a1 : Addr) (a2 : Addr) (cz : Int32) (fv : Value) (k1 : ClassId) (k2 : ClassId) (c0 : Int32) (h0 : Heap) (n0 : Nat) (v : Option Value) (h : Heap) (L : List Loc) : Prop := (v = some (.int (1 : Int32)) ∧ Fr n0 L ∧ Keep h0 h [a2] ∧ (∀ c ∈ [c0], ¬ (255 : Int32) < c) ∧ Arv Z h a2 k2 .byte (1 : Int32) [(.int (c0.toInt8.toInt32))] (.int (0 : Int32))) ∨ (∃ (i ci : Int32), v = some (.int i) ∧ Fr n0 L ∧ Keep h0 h [a2] ∧ ¬ i < 0 ∧ ¬ i = (1 : Int32) ∧ [c0][i.toNatClampNeg]? = some ci ∧ (255 : Int32) < ci)
set_option maxRecDepth 65536 in
set_option maxHeartbeats 40000000 in
theorem rmKa1 (l : Launch) (Z : State) (a0 : Array Value) (hw : HW a0 Z) (ws : List Jvm.Cond) (a1 : Addr) (a2 : Addr) (cz : Int32) (fv : Value) (k1 : ClassId) (k2 : ClassId) (c0 : Int32) (h0 : Heap) (n0 : Nat) (Z0 : n0 ≤ h0.size) (O0 : Old Z n0 h0) (J0 : Jd Z cz fv) (V1 : Arv Z h0 a1 k1 .char (1 : Int32) [(.int c0)] (.int (0 : Int32))) (V2 : Arv Z h0 a2 k2 .byte (1 : Int32) [(.int (0 : Int32))] (.int (0 : Int32))) (ne12 : a1 ≠ a2) (g_a2 : n0 ≤ a2) :
    MF l Z mN11 jdk_52_method_21_code 7 (some .int) ws rKKa1 #[(.ref a1), (.int (0 : Int32)), (.ref a2), (.int (0 : Int32)), (.int (1 : Int32))] h0 (QKa1 Z a1 a2 cz fv k1 k2 c0 h0 n0) := by
  refine MetFree.of_bodySF (plainFor_of_name pn3) hisR ?_
  intro p e s m args bl meth c s1 Bd hml0 hP hK
  obtain ⟨rfl, hZ, hh⟩ := hP
  have hx := Bd.exec
  have hby := Bd.bytes
  have B := @hb c _ hby
  have hown : s.vm.findClass "java/lang/StringUTF16" = some m.cls := findClass_of_methodNamed Bd.named
  have hlk : meth.locks = false := BodyLoose.notSynchronized Bd
  have hrt : ∀ {v : Option Value}, meth.sig.returnType = none → v = none := fun h => by rw [Bd.returns] at h; cases h
  have X0 : Stand p l e rKKa1 s m #[(.ref a1), (.int (0 : Int32)), (.ref a2), (.int (0 : Int32)), (.int (1 : Int32))] bl meth c s1 [] 0 0 := Stand.of_body Bd
  have e0 : s1.heap = h0 := by rw [← hh, Bd.state]; rfl
  have N0 := Fr.nil n0
  obtain ⟨EF, hEF⟩ : ∃ f, f = entryFrame m #[(.ref a1), (.int (0 : Int32)), (.ref a2), (.int (0 : Int32)), (.int (1 : Int32))] 7 := ⟨_, rfl⟩
  have pre0 : Go p e bl s1 (mkF m 0 #[rv a1, iv (0 : Int32), rv a2, iv (0 : Int32), iv (1 : Int32), .unset, .unset] []) s1 EF := fun t k => by rw [hEF]; exact castTop (efKa1 m a1 a2) k
  have pre1 : Go p e bl s1 (mkF m 7 #[rv a1, iv (0 : Int32), rv a2, iv (0 : Int32), iv (1 : Int32), iv (0 : Int32), .unset] [(.int (1 : Int32)), (.int (0 : Int32))]) s1 EF := fun t k => pre0 t (by
   refine XS.iconst X0.here hx rfl (B d11_0) ?_
   refine XS.istore X0.here hx rfl (B d11_1) rfl (l' := #[rv a1, iv (0 : Int32), rv a2, iv (0 : Int32), iv (1 : Int32), iv (0 : Int32), .unset]) rfl ?_
   refine XS.iload X0.here hx rfl (B d11_3) rfl ?_
   exact XS.iload X0.here hx rfl (B d11_5) rfl k)
  have pre2 : Go p e bl s1 (mkF m 10 #[rv a1, iv (0 : Int32), rv a2, iv (0 : Int32), iv (1 : Int32), iv (0 : Int32), .unset] []) s1 EF := fun t k => pre1 t (XS.icmpNo X0.here hx rfl (B d11_7) rfl (tlt (by decide : (0 : Int32) < (1 : Int32))).2.1 k)
  have pre3 : Go p e bl s1 (mkF m 12 #[rv a1, iv (0 : Int32), rv a2, iv (0 : Int32), iv (1 : Int32), iv (0 : Int32), .unset] [(.int (0 : Int32)), (.ref a1)]) s1 EF := fun t k => pre2 t (by
   refine XS.aloadN X0.here hx rfl (B d11_10) rfl rfl ?_
   exact XS.iloadN X0.here hx rfl (B d11_11) rfl k)
  obtain ⟨cl4, Ar4, q4, Sz4, M4, H4, G4⟩ := id V1
  have hin4 : ¬ ((0 : Int32) < 0 ∨ cl4.slots.size ≤ ((0 : Int32)).toNatClampNeg) := inb_of Sz4 ⟨by decide, by decide⟩
  have hat4 : cl4.slots[((0 : Int32)).toNatClampNeg]? = some (.int c0) := Has.at H4 hin4 rfl
  have pre5 : Go p e bl s1 (mkF m 20 #[rv a1, iv (0 : Int32), rv a2, iv (0 : Int32), iv (1 : Int32), iv (0 : Int32), iv c0] [(.int (255 : Int32)), (.int c0)]) s1 EF := fun t k => pre3 t (by
   refine X0.caload hx (j := (0 : Int32)) (v := (.int c0)) (by rw [e0]; exact Ar4.1) (State.isArrayOf_alike hZ.alike Ar4.2.1) Ar4.2.2 hin4 hat4 (g := (mkF m 12 #[rv a1, iv (0 : Int32), rv a2, iv (0 : Int32), iv (1 : Int32), iv (0 : Int32), .unset] [(.int (0 : Int32)), (.ref a1)])) rfl rfl (B d11_12) _ ?_
   refine XS.istore X0.here hx rfl (B d11_13) rfl (l' := #[rv a1, iv (0 : Int32), rv a2, iv (0 : Int32), iv (1 : Int32), iv (0 : Int32), iv c0]) rfl ?_
   refine XS.iload X0.here hx rfl (B d11_15) rfl ?_
   exact XS.sipush X0.here hx rfl (B d11_17) k)
  by_cases hc20 : (255 : Int32) < c0
  · have pre6 : Go p e bl s1 (mkF m 23 #[rv a1, iv (0 : Int32), rv a2, iv (0 : Int32), iv (1 : Int32), iv (0 : Int32), iv c0] []) s1 EF := fun t k => pre5 t (XS.icmpNo X0.here hx rfl (B d11_20) rfl (tlt hc20).2.2.2 k)
    have pre7 : Go p e bl s1 (mkF m 25 #[rv a1, iv (0 : Int32), rv a2, iv (0 : Int32), iv (1 : Int32), iv (0 : Int32), iv c0] [(.int (0 : Int32))]) s1 EF := fun t k => pre6 t (by
     exact XS.iload X0.here hx rfl (B d11_23) rfl k)
    exact fin1 X0 (v := some (.int (0 : Int32))) hrt hlk (wl rfl) (wl rfl) (by rw [e0]; exact Or.inr ⟨_, _, rfl, N0, (Keep.refl h0 [a2]), (by decide), (by decide), rfl, hc20⟩) (fun fs hr => hEF ▸ pre7 _ (retOut X0 hx Bd.returns rfl (Or.inl ⟨rfl, Or.inl rfl, _, rfl⟩) (B d11_25) hr))
  have pre8 : Go p e bl s1 (mkF m 26 #[rv a1, iv (0 : Int32), rv a2, iv (0 : Int32), iv (1 : Int32), iv (0 : Int32), iv c0] []) s1 EF := fun t k => pre5 t (XS.icmpYes X0.here hx rfl (pc0 := 20) (pc' := 26) rfl (B d11_20) rfl (flt hc20).2.2.2 (by decide) (by decide) k)
  have pre9 : Go p e bl s1 (mkF m 31 #[rv a1, iv (0 : Int32), rv a2, iv (0 : Int32), iv (1 : Int32), iv (0 : Int32), iv c0] [(.int (c0.toInt8.toInt32)), (.int (0 : Int32)), (.ref a2)]) s1 EF := fun t k => pre8 t (by
   refine XS.aloadN X0.here hx rfl (B d11_26) rfl rfl ?_
   refine XS.iloadN X0.here hx rfl (B d11_27) rfl ?_
   refine XS.iload X0.here hx rfl (B d11_28) rfl ?_
   exact XS.i2b X0.here hx rfl (B d11_30) rfl k)
  obtain ⟨cl10, Ar10, q10, Sz10, M10, H10, G10⟩ := id V2
  have hin10 : ¬ ((0 : Int32) < 0 ∨ cl10.slots.size ≤ ((0 : Int32)).toNatClampNeg) := inb_of Sz10 ⟨by decide, by decide⟩
  obtain ⟨T10, h10, X10, e10, W10, st10⟩ := stB X0 hx hZ e0 Ar10 (j := (0 : Int32)) hin10 (g := (mkF m 31 #[rv a1, iv (0 : Int32), rv a2, iv (0 : Int32), iv (1 : Int32), iv (0 : Int32), iv c0] [(.int (c0.toInt8.toInt32)), (.int (0 : Int32)), (.ref a2)])) rfl rfl (B d11_31)
  rw [own_i2b2] at W10
  have pre11 : Go p e bl T10 (mkF m 32 #[rv a1, iv (0 : Int32), rv a2, iv (0 : Int32), iv (1 : Int32), iv (0 : Int32), iv c0] []) s1 EF := fun t k => pre9 t (st10 t k)
  have O12 : Old Z n0 h10 := O0.wr W10 g_a2
  have Z12 : n0 ≤ h10.size := Nat.le_trans Z0 (Keep.of_wr W10).1
  have K12 : Keep h0 h10 [a2] := (Keep.refl h0 [a2]).wr W10 (Or.inl (List.mem_of_getElem? (i := 0) rfl))
  have V10 : Arv Z h10 a2 k2 .byte (1 : Int32) [(.int (c0.toInt8.toInt32))] (.int (0 : Int32)) := Arv.set Ar10 q10 Sz10 M10 H10 G10 (fits_nar_byte _) W10 0 rfl (Nat.le_of_ble_eq_true rfl)
  have N10 := Fr.snoc X10 N0 g_a2
  have pre13 : Go p e bl T10 (mkF m 7 #[rv a1, iv (1 : Int32), rv a2, iv (1 : Int32), iv (1 : Int32), iv (1 : Int32), iv c0] [(.int (1 : Int32)), (.int (1 : Int32))]) s1 EF := fun t k => pre11 t (by
   refine XS.iinc X10.here hx rfl (B d11_32) rfl (l' := #[rv a1, iv (1 : Int32), rv a2, iv (0 : Int32), iv (1 : Int32), iv (0 : Int32), iv c0]) rfl ?_
   refine XS.iinc X10.here hx rfl (B d11_35) rfl (l' := #[rv a1, iv (1 : Int32), rv a2, iv (1 : Int32), iv (1 : Int32), iv (0 : Int32), iv c0]) rfl ?_
   refine XS.iinc X10.here hx rfl (B d11_38) rfl (l' := #[rv a1, iv (1 : Int32), rv a2, iv (1 : Int32), iv (1 : Int32), iv (1 : Int32), iv c0]) rfl ?_
   refine XS.goto X10.here hx rfl (pc0 := 41) (pc' := 3) rfl (B d11_41) (by decide) (by decide) ?_
   refine XS.iload X10.here hx rfl (B d11_3) rfl ?_
   exact XS.iload X10.here hx rfl (B d11_5) rfl k)
  have pre14 : Go p e bl T10 (mkF m 44 #[rv a1, iv (1 : Int32), rv a2, iv (1 : Int32), iv (1 : Int32), iv (1 : Int32), iv c0] []) s1 EF := fun t k => pre13 t (XS.icmpYes X10.here hx rfl (pc0 := 7) (pc' := 44) rfl (B d11_7) rfl (flt (by decide : ¬ ((1 : Int32) < (1 : Int32)))).2.1 (by decide) (by decide) k)
  have pre15 : Go p e bl T10 (mkF m 46 #[rv a1, iv (1 : Int32), rv a2, iv (1 : Int32), iv (1 : Int32), iv (1 : Int32), iv c0] [(.int (1 : Int32))]) s1 EF := fun t k => pre14 t (by
   exact XS.iload X10.here hx rfl (B d11_44) rfl k)
  exact fin1 X10 (v := some (.int (1 : Int32))) hrt hlk (wl rfl) (wl rfl) (by rw [e10]; exact Or.inl ⟨rfl, N10, K12, (List.forall_mem_cons.mpr ⟨hc20, (fun _ q => nomatch q)⟩), V10⟩) (fun fs hr => hEF ▸ pre15 _ (retOut X10 hx Bd.returns rfl (Or.inl ⟨rfl, Or.inl rfl, _, rfl⟩) (B d11_46) hr))
abbrev rKKn1 : Room := { frames := 0, cells := 0, slots := 0, locals := 0 }
theorem d12_0 : decode jdk_52_method_3_code 0 = .ok (.iload_n 0, 1) := by decide +kernel
theorem d12_1 : decode jdk_52_method_3_code 1 = .ok (.ifCond .ge 11, 3) := by decide +kernel
theorem d12_12 : decode jdk_52_method_3_code 12 = .ok (.iload_n 0, 1) := by decide +kernel
theorem d12_13 : decode jdk_52_method_3_code 13 = .ok (.ldc 20, 2) := by decide +kernel
theorem d12_15 : decode jdk_52_method_3_code 15 = .ok (.if_icmp .lt 40, 3) := by decide +kernel
theorem d12_55 : decode jdk_52_method_3_code 55 = .ok (.iload_n 0, 1) := by decide +kernel
theorem d12_56 : decode jdk_52_method_3_code 56 = .ok (.iconst 1, 1) := by decide +kernel
theorem d12_57 : decode jdk_52_method_3_code 57 = .ok (.ishl, 1) := by decide +kernel
theorem d12_58 : decode jdk_52_method_3_code 58 = .ok (.ireturn, 1) := by decide +kernel
theorem efKn1 (m : MethodId)  : entryFrame m #[(.int (1 : Int32))] 1 = mkF m 0 #[iv (1 : Int32)] [] := by first | (simp [entryFrame, mkF, argsToLocals, Value.category]; done) | rfl
def QKn1 (Z : State) (cz : Int32) (fv : Value) (h0 : Heap) (n0 : Nat) (v : Option Value) (h : Heap) (L : List Loc) : Prop := v = some (.int (2 : Int32)) ∧ Fr n0 L ∧ h = h0
set_option maxRecDepth 65536 in
set_option maxHeartbeats 40000000 in
theorem rmKn1 (l : Launch) (Z : State) (a0 : Array Value) (hw : HW a0 Z) (ws : List Jvm.Cond) (cz : Int32) (fv : Value) (h0 : Heap) (n0 : Nat) (Z0 : n0 ≤ h0.size) (O0 : Old Z n0 h0) (J0 : Jd Z cz fv) :
    MF l Z mN12 jdk_52_method_3_code 1 (some .int) ws rKKn1 #[(.int (1 : Int32))] h0 (QKn1 Z cz fv h0 n0) := by
  refine MetFree.of_bodySF (plainFor_of_name pn3) hisR ?_
  intro p e s m args bl meth c s1 Bd hml0 hP hK
  obtain ⟨rfl, hZ, hh⟩ := hP
  have hx := Bd.exec
  have hby := Bd.bytes
  have B := @hb c _ hby
  have hown : s.vm.findClass "java/lang/StringUTF16" = some m.cls := findClass_of_methodNamed Bd.named
  have hlk : meth.locks = false := BodyLoose.notSynchronized Bd
  have hrt : ∀ {v : Option Value}, meth.sig.returnType = none → v = none := fun h => by rw [Bd.returns] at h; cases h
  have X0 : Stand p l e rKKn1 s m #[(.int (1 : Int32))] bl meth c s1 [] 0 0 := Stand.of_body Bd
  have e0 : s1.heap = h0 := by rw [← hh, Bd.state]; rfl
  have N0 := Fr.nil n0
  obtain ⟨EF, hEF⟩ : ∃ f, f = entryFrame m #[(.int (1 : Int32))] 1 := ⟨_, rfl⟩
  have pre0 : Go p e bl s1 (mkF m 0 #[iv (1 : Int32)] []) s1 EF := fun t k => by rw [hEF]; exact castTop (efKn1 m ) k
  have pre1 : Go p e bl s1 (mkF m 1 #[iv (1 : Int32)] [(.int (1 : Int32))]) s1 EF := fun t k => pre0 t (by
   exact XS.iloadN X0.here hx rfl (B d12_0) rfl k)
  have pre2 : Go p e bl s1 (mkF m 12 #[iv (1 : Int32)] []) s1 EF := fun t k => pre1 t (XS.ifYes X0.here hx rfl (pc0 := 1) (pc' := 12) rfl (B d12_1) rfl ((if0 _ _).trans (flt (by decide : ¬ ((1 : Int32) < (0 : Int32)))).2.1) (by decide) (by decide) k)
  have pre3 : Go p e bl s1 (mkF m 15 #[iv (1 : Int32)] [(.int (1073741823 : Int32)), (.int (1 : Int32))]) s1 EF := fun t k => pre2 t (by
   refine XS.iloadN X0.here hx rfl (B d12_12) rfl ?_
   exact X0.ldcInt hx hown (mvT hZ (hw _ (mW 92 rfl))) (g := (mkF m 13 #[iv (1 : Int32)] [(.int (1 : Int32))])) rfl (B d12_13) _ k)
  have pre4 : Go p e bl s1 (mkF m 55 #[iv (1 : Int32)] []) s1 EF := fun t k => pre3 t (XS.icmpYes X0.here hx rfl (pc0 := 15) (pc' := 55) rfl (B d12_15) rfl (tlt (by decide : (1 : Int32) < (1073741823 : Int32))).1 (by decide) (by decide) k)
  have pre5 : Go p e bl s1 (mkF m 58 #[iv (1 : Int32)] [(.int (2 : Int32))]) s1 EF := fun t k => pre4 t (by
   refine XS.iloadN X0.here hx rfl (B d12_55) rfl ?_
   refine XS.iconst X0.here hx rfl (B d12_56) ?_
   exact XS.ishl X0.here hx rfl (B d12_57) rfl k)
  exact fin1 X0 (v := some (.int (2 : Int32))) hrt hlk (wl rfl) (wl rfl) (by rw [e0]; exact ⟨rfl, N0, rfl⟩) (fun fs hr => hEF ▸ pre5 _ (retOut X0 hx Bd.returns rfl (Or.inl ⟨rfl, Or.inl rfl, _, rfl⟩) (B d12_58) hr))
abbrev rKKf1 : Room := { frames := 1, cells := 1, slots := 2, locals := 12 }
theorem d13_0 : decode jdk_52_method_2_code 0 = .ok (.iload_n 0, 1) := by decide +kernel
theorem d13_1 : decode jdk_52_method_2_code 1 = .ok (.invokestatic 11, 3) := by decide +kernel
theorem d13_4 : decode jdk_52_method_2_code 4 = .ok (.newarray .byte, 2) := by decide +kernel
theorem d13_6 : decode jdk_52_method_2_code 6 = .ok (.areturn, 1) := by decide +kernel
theorem pd7 : parseMethodDescriptor "(I)I" = some ⟨[.int], some .int⟩ := by decide +kernel
theorem efKf1 (m : MethodId)  : entryFrame m #[(.int (1 : Int32))] 1 = mkF m 0 #[iv (1 : Int32)] [] := by first | (simp [entryFrame, mkF, argsToLocals, Value.category]; done) | rfl
def QKf1 (Z : State) (cz : Int32) (fv : Value) (h0 : Heap) (n0 : Nat) (v : Option Value) (h : Heap) (L : List Loc) : Prop := ∃ b k, v = some (.ref b) ∧ Fr n0 L ∧ Keep h0 h [] ∧ h0.size ≤ b ∧ Arv Z h b k .byte (2 : Int32) [(.int (0 : Int32)), (.int (0 : Int32))] (.int (0 : Int32))
set_option maxRecDepth 65536 in
set_option maxHeartbeats 40000000 in
theorem rmKf1 (l : Launch) (Z : State) (a0 : Array Value) (hw : HW a0 Z) (ws : List Jvm.Cond) (cz : Int32) (fv : Value) (h0 : Heap) (n0 : Nat) (Z0 : n0 ≤ h0.size) (O0 : Old Z n0 h0) (J0 : Jd Z cz fv) :
    MF l Z mN13 jdk_52_method_2_code 1 (some (.array .byte)) ws rKKf1 #[(.int (1 : Int32))] h0 (QKf1 Z cz fv h0 n0) := by
  refine MetFree.of_bodySF (plainFor_of_name pn3) hisR ?_
  intro p e s m args bl meth c s1 Bd hml0 hP hK
  obtain ⟨rfl, hZ, hh⟩ := hP
  have hx := Bd.exec
  have hby := Bd.bytes
  have B := @hb c _ hby
  have hM := fun {n : Nat} (h : n = 1) => h.trans hml0.symm
  have hown : s.vm.findClass "java/lang/StringUTF16" = some m.cls := findClass_of_methodNamed Bd.named
  have hlk : meth.locks = false := BodyLoose.notSynchronized Bd
  have hrt : ∀ {v : Option Value}, meth.sig.returnType = none → v = none := fun h => by rw [Bd.returns] at h; cases h
  have X0 : Stand p l e rKKf1 s m #[(.int (1 : Int32))] bl meth c s1 [] 0 0 := Stand.of_body Bd
  have e0 : s1.heap = h0 := by rw [← hh, Bd.state]; rfl
  have N0 := Fr.nil n0
  obtain ⟨EF, hEF⟩ : ∃ f, f = entryFrame m #[(.int (1 : Int32))] 1 := ⟨_, rfl⟩
  have pre0 : Go p e bl s1 (mkF m 0 #[iv (1 : Int32)] []) s1 EF := fun t k => by rw [hEF]; exact castTop (efKf1 m ) k
  have pre1 : Go p e bl s1 (mkF m 1 #[iv (1 : Int32)] [(.int (1 : Int32))]) s1 EF := fun t k => pre0 t (by
   exact XS.iloadN X0.here hx rfl (B d13_0) rfl k)
  obtain ⟨_, _, ⟨T2, L2, k2, n2⟩, -, X2, ⟨Lc2, hQ2, l2, y2, z2⟩, st2⟩ := Jvm.LawKit.callS X0 hx (y := mN12) hown (mvT hZ (hw _ (mW 89 rfl))) (mvT hZ (hw _ (mW 90 rfl))) (mvT hZ (hw _ (mW 45 rfl))) (mvT hZ (hw _ (mW 91 rfl))) (by decide) (backOf (W := 0) (rmKn1 l Z a0 hw []  cz fv  h0 n0 Z0 O0 J0 ) hZ (hw _ (mW 91 rfl)) (hw _ (mW 45 rfl)) (by decide) (by decide)) (g := (mkF m 1 #[iv (1 : Int32)] [(.int (1 : Int32))])) rfl (hM rfl) (argsL := [(.int (1 : Int32))]) (rest := []) (lenOf pd7 rfl) rfl (Nat.le_of_eq rfl) (B d13_1) (fun _ _ => ⟨rfl, e0, wl rfl, wl rfl⟩)
  dsimp only [Pt.U, Pt.locs, Pt.cells, Pt.slots] at X2 l2 y2 z2 st2 hQ2
  subst l2 y2 z2
  obtain ⟨rfl, N2q, hq2⟩ := hQ2
  have N2 := Fr.app N0 N2q
  have pre3 : Go p e bl T2 (mkF m 4 #[iv (1 : Int32)] [(.int (2 : Int32))]) s1 EF := fun t k => pre1 t (st2 t k)
  have e2 : T2.heap = h0 := hq2
  obtain ⟨T4, h4, k4, X4, e4, Et4, A4, st4⟩ := newP X2 hx hZ (hw _ (mW 21 rfl)) e2 (g := (mkF m 4 #[iv (1 : Int32)] [(.int (2 : Int32))])) rfl (B d13_4) rfl (by decide) (cap := 2) (by decide) (by decide) (by decide) (by decide)
  obtain ⟨b4, g4⟩ : ∃ z, z = h0.size := ⟨_, rfl⟩
  rw [← g4] at A4 st4
  have g_b4 : n0 ≤ b4 := Nat.le_trans Z0 (Nat.le_of_eq g4.symm)
  have sz_b4 : h0.size ≤ b4 := Nat.le_trans (Keep.refl h0 []).1 (Nat.le_of_eq g4.symm)
  have pre5 : Go p e bl T4 (mkF m 6 #[iv (1 : Int32)] [(.ref b4)]) s1 EF := fun t k => pre3 t (st4 t k)
  have O6 : Old Z n0 h4 := O0.ext Et4
  have Z6 : n0 ≤ h4.size := Nat.le_trans Z0 Et4.1
  have K6 : Keep h0 h4 [] := (Keep.refl h0 []).ext Et4
  have V4 : Arv Z h4 b4 k4 .byte (2 : Int32) [(.int (0 : Int32)), (.int (0 : Int32))] (.int (0 : Int32)) := (Arv.new A4 (by decide)).pad (pad_rep [] (.int (0 : Int32)) 2)
  exact fin1 X4 (v := some (.ref b4)) hrt hlk (wl rfl) (wl rfl) (by rw [e4]; exact ⟨_, _, rfl, N2, K6, sz_b4, V4⟩) (fun fs hr => hEF ▸ pre5 _ (retOut X4 hx Bd.returns rfl (Or.inr (Or.inr (Or.inr (Or.inr ⟨rfl, rfl, rfl⟩)))) (B d13_6) hr))
abbrev rKKp0 : Room := { frames := 0, cells := 0, slots := 0, locals := 0 }
theorem d14_0 : decode jdk_52_method_4_code 0 = .ok (.getstatic 44, 3) := by decide +kernel
theorem d14_3 : decode jdk_52_method_4_code 3 = .ok (.ifCond .ne 25, 3) := by decide +kernel
theorem d14_28 : decode jdk_52_method_4_code 28 = .ok (.iload_n 1, 1) := by decide +kernel
theorem d14_29 : decode jdk_52_method_4_code 29 = .ok (.iconst 1, 1) := by decide +kernel
theorem d14_30 : decode jdk_52_method_4_code 30 = .ok (.ishl, 1) := by decide +kernel
theorem d14_31 : decode jdk_52_method_4_code 31 = .ok (.istore_n 1, 1) := by decide +kernel
theorem d14_32 : decode jdk_52_method_4_code 32 = .ok (.aload_n 0, 1) := by decide +kernel
theorem d14_33 : decode jdk_52_method_4_code 33 = .ok (.iload_n 1, 1) := by decide +kernel
theorem d14_34 : decode jdk_52_method_4_code 34 = .ok (.iinc 1 1, 3) := by decide +kernel
theorem d14_37 : decode jdk_52_method_4_code 37 = .ok (.iload_n 2, 1) := by decide +kernel
theorem d14_38 : decode jdk_52_method_4_code 38 = .ok (.getstatic 59, 3) := by decide +kernel
theorem d14_41 : decode jdk_52_method_4_code 41 = .ok (.ishr, 1) := by decide +kernel
theorem d14_42 : decode jdk_52_method_4_code 42 = .ok (.i2b, 1) := by decide +kernel
theorem d14_43 : decode jdk_52_method_4_code 43 = .ok (.bastore, 1) := by decide +kernel
theorem d14_44 : decode jdk_52_method_4_code 44 = .ok (.aload_n 0, 1) := by decide +kernel
theorem d14_45 : decode jdk_52_method_4_code 45 = .ok (.iload_n 1, 1) := by decide +kernel
theorem d14_46 : decode jdk_52_method_4_code 46 = .ok (.iload_n 2, 1) := by decide +kernel
theorem d14_47 : decode jdk_52_method_4_code 47 = .ok (.getstatic 63, 3) := by decide +kernel
theorem d14_50 : decode jdk_52_method_4_code 50 = .ok (.ishr, 1) := by decide +kernel
theorem d14_51 : decode jdk_52_method_4_code 51 = .ok (.i2b, 1) := by decide +kernel
theorem d14_52 : decode jdk_52_method_4_code 52 = .ok (.bastore, 1) := by decide +kernel
theorem d14_53 : decode jdk_52_method_4_code 53 = .ok (.return_, 1) := by decide +kernel
theorem efKp0 (m : MethodId) (a1 : Addr) (p2 : Int32) : entryFrame m #[(.ref a1), (.int (0 : Int32)), (.int p2)] 3 = mkF m 0 #[rv a1, iv (0 : Int32), iv p2] [] := by first | (simp [entryFrame, mkF, argsToLocals, Value.category]; done) | rfl
def QKp0 (Z : State) (a1 : Addr) (p2 : Int32) (cz : Int32) (fv : Value) (k : ClassId) (z : Int32) (vs : List Value) (h0 : Heap) (n0 : Nat) (v : Option Value) (h : Heap) (L : List Loc) : Prop := v = none ∧ Fr n0 L ∧ Keep h0 h [a1] ∧ Arv Z h a1 k .byte z ((vs.set 0 (.int (lo8 p2))).set 1 (.int (hi8 p2))) (.int 0)
set_option maxRecDepth 65536 in
set_option maxHeartbeats 40000000 in
theorem rmKp0 (l : Launch) (Z : State) (a0 : Array Value) (hw : HW a0 Z) (ws : List Jvm.Cond) (a1 : Addr) (p2 : Int32) (cz : Int32) (fv : Value) (k : ClassId) (z : Int32) (vs : List Value) (h0 : Heap) (n0 : Nat) (Z0 : n0 ≤ h0.size) (O0 : Old Z n0 h0) (J0 : Jd Z cz fv) (VV : Arv Z h0 a1 k .byte z vs (.int 0)) (g_a1 : n0 ≤ a1) (hz0 : (0 : Int32) < z) (hz1 : (1 : Int32) < z) (hln : 1 < vs.length) :
    MF l Z mN14 jdk_52_method_4_code 3 none ws rKKp0 #[(.ref a1), (.int (0 : Int32)), (.int p2)] h0 (QKp0 Z a1 p2 cz fv k z vs h0 n0) := by
  refine MetFree.of_bodySF (plainFor_of_name pn3) hisR ?_
  intro p e s m args bl meth c s1 Bd hml0 hP hK
  obtain ⟨rfl, hZ, hh⟩ := hP
  have hx := Bd.exec
  have hby := Bd.bytes
  have B := @hb c _ hby
  have hown : s.vm.findClass "java/lang/StringUTF16" = some m.cls := findClass_of_methodNamed Bd.named
  have hlk : meth.locks = false := BodyLoose.notSynchronized Bd
  have X0 : Stand p l e rKKp0 s m #[(.ref a1), (.int (0 : Int32)), (.int p2)] bl meth c s1 [] 0 0 := Stand.of_body Bd
  have e0 : s1.heap = h0 := by rw [← hh, Bd.state]; rfl
  have N0 := Fr.nil n0
  obtain ⟨EF, hEF⟩ : ∃ f, f = entryFrame m #[(.ref a1), (.int (0 : Int32)), (.int p2)] 3 := ⟨_, rfl⟩
  have pre0 : Go p e bl s1 (mkF m 0 #[rv a1, iv (0 : Int32), iv p2] []) s1 EF := fun t k => by rw [hEF]; exact castTop (efKp0 m a1 p2) k
  obtain ⟨T1, X1, e1, st1⟩ := getS2 X0 hx hZ hown (host := "") (Or.inl (hw _ (mW 96 rfl))) Via.refl e0 (J0.2.2.2.1.ext O0.2) (g := (mkF m 0 #[rv a1, iv (0 : Int32), iv p2] [])) rfl (B d14_0)
  have pre2 : Go p e bl T1 (mkF m 3 #[rv a1, iv (0 : Int32), iv p2] [(.int (1 : Int32))]) s1 EF := fun t k => pre0 t (st1 t k)
  have pre3 : Go p e bl T1 (mkF m 28 #[rv a1, iv (0 : Int32), iv p2] []) s1 EF := fun t k => pre2 t (XS.ifYes X1.here hx rfl (pc0 := 3) (pc' := 28) rfl (B d14_3) rfl ((if0 _ _).trans (feq (by decide : ¬ ((1 : Int32) = (0 : Int32)))).2) (by decide) (by decide) k)
  have pre4 : Go p e bl T1 (mkF m 38 #[rv a1, iv (1 : Int32), iv p2] [(.int p2), (.int (0 : Int32)), (.ref a1)]) s1 EF := fun t k => pre3 t (by
   refine XS.iloadN X1.here hx rfl (B d14_28) rfl ?_
   refine XS.iconst X1.here hx rfl (B d14_29) ?_
   refine XS.ishl X1.here hx rfl (B d14_30) rfl ?_
   refine XS.istoreN X1.here hx rfl (B d14_31) rfl (l' := #[rv a1, iv (0 : Int32), iv p2]) rfl ?_
   refine XS.aloadN X1.here hx rfl (B d14_32) rfl rfl ?_
   refine XS.iloadN X1.here hx rfl (B d14_33) rfl ?_
   refine XS.iinc X1.here hx rfl (B d14_34) rfl (l' := #[rv a1, iv (1 : Int32), iv p2]) rfl ?_
   exact XS.iloadN X1.here hx rfl (B d14_37) rfl k)
  obtain ⟨T5, X5, e5, st5⟩ := getS2 X1 hx hZ hown (host := "") (Or.inl (hw _ (mW 97 rfl))) Via.refl e1 (J0.2.2.2.2.1.ext O0.2) (g := (mkF m 38 #[rv a1, iv (1 : Int32), iv p2] [(.int p2), (.int (0 : Int32)), (.ref a1)])) rfl (B d14_38)
  have pre6 : Go p e bl T5 (mkF m 41 #[rv a1, iv (1 : Int32), iv p2] [(.int (0 : Int32)), (.int p2), (.int (0 : Int32)), (.ref a1)]) s1 EF := fun t k => pre4 t (st5 t k)
  have pre7 : Go p e bl T5 (mkF m 43 #[rv a1, iv (1 : Int32), iv p2] [(.int ((p2 >>> ((0 : Int32) &&& 31)).toInt8.toInt32)), (.int (0 : Int32)), (.ref a1)]) s1 EF := fun t k => pre6 t (by
   refine XS.ishr X5.here hx rfl (B d14_41) rfl ?_
   exact XS.i2b X5.here hx rfl (B d14_42) rfl k)
  obtain ⟨cl8, Ar8, q8, Sz8, M8, H8, G8⟩ := id VV
  have hin8 : ¬ ((0 : Int32) < 0 ∨ cl8.slots.size ≤ ((0 : Int32)).toNatClampNeg) := inb_of Sz8 ⟨by decide, hz0⟩
  obtain ⟨T8, h8, X8, e8, W8, st8⟩ := stB X5 hx hZ e5 Ar8 (j := (0 : Int32)) hin8 (g := (mkF m 43 #[rv a1, iv (1 : Int32), iv p2] [(.int ((p2 >>> ((0 : Int32) &&& 31)).toInt8.toInt32)), (.int (0 : Int32)), (.ref a1)])) rfl rfl (B d14_43)
  rw [own_i2b2] at W8
  have pre9 : Go p e bl T8 (mkF m 44 #[rv a1, iv (1 : Int32), iv p2] []) s1 EF := fun t k => pre7 t (st8 t k)
  have O10 : Old Z n0 h8 := O0.wr W8 g_a1
  have Z10 : n0 ≤ h8.size := Nat.le_trans Z0 (Keep.of_wr W8).1
  have K10 : Keep h0 h8 [a1] := (Keep.refl h0 [a1]).wr W8 (Or.inl (List.mem_of_getElem? (i := 0) rfl))
  have V8 : Arv Z h8 a1 k .byte z (vs.set 0 (.int ((p2 >>> ((0 : Int32) &&& 31)).toInt8.toInt32))) (.int (0 : Int32)) := Arv.set Ar8 q8 Sz8 M8 H8 G8 (fits_nar_byte _) W8 0 rfl (by first | (simp only [List.length_set]; omega) | omega)
  have N8 := Fr.snoc X8 N0 g_a1
  have pre11 : Go p e bl T8 (mkF m 47 #[rv a1, iv (1 : Int32), iv p2] [(.int p2), (.int (1 : Int32)), (.ref a1)]) s1 EF := fun t k => pre9 t (by
   refine XS.aloadN X8.here hx rfl (B d14_44) rfl rfl ?_
   refine XS.iloadN X8.here hx rfl (B d14_45) rfl ?_
   exact XS.iloadN X8.here hx rfl (B d14_46) rfl k)
  obtain ⟨T12, X12, e12, st12⟩ := getS2 X8 hx hZ hown (host := "") (Or.inl (hw _ (mW 98 rfl))) Via.refl e8 (J0.2.2.2.2.2.1.ext O10.2) (g := (mkF m 47 #[rv a1, iv (1 : Int32), iv p2] [(.int p2), (.int (1 : Int32)), (.ref a1)])) rfl (B d14_47)
  have pre13 : Go p e bl T12 (mkF m 50 #[rv a1, iv (1 : Int32), iv p2] [(.int (8 : Int32)), (.int p2), (.int (1 : Int32)), (.ref a1)]) s1 EF := fun t k => pre11 t (st12 t k)
  have pre14 : Go p e bl T12 (mkF m 52 #[rv a1, iv (1 : Int32), iv p2] [(.int ((p2 >>> ((8 : Int32) &&& 31)).toInt8.toInt32)), (.int (1 : Int32)), (.ref a1)]) s1 EF := fun t k => pre13 t (by
   refine XS.ishr X12.here hx rfl (B d14_50) rfl ?_
   exact XS.i2b X12.here hx rfl (B d14_51) rfl k)
  obtain ⟨cl15, Ar15, q15, Sz15, M15, H15, G15⟩ := id V8
  have hin15 : ¬ ((1 : Int32) < 0 ∨ cl15.slots.size ≤ ((1 : Int32)).toNatClampNeg) := inb_of Sz15 ⟨by decide, hz1⟩
  obtain ⟨T15, h15, X15, e15, W15, st15⟩ := stB X12 hx hZ e12 Ar15 (j := (1 : Int32)) hin15 (g := (mkF m 52 #[rv a1, iv (1 : Int32), iv p2] [(.int ((p2 >>> ((8 : Int32) &&& 31)).toInt8.toInt32)), (.int (1 : Int32)), (.ref a1)])) rfl rfl (B d14_52)
  rw [own_i2b2] at W15
  have pre16 : Go p e bl T15 (mkF m 53 #[rv a1, iv (1 : Int32), iv p2] []) s1 EF := fun t k => pre14 t (st15 t k)
  have O17 : Old Z n0 h15 := O10.wr W15 g_a1
  have Z17 : n0 ≤ h15.size := Nat.le_trans Z10 (Keep.of_wr W15).1
  have K17 : Keep h0 h15 [a1] := K10.wr W15 (Or.inl (List.mem_of_getElem? (i := 0) rfl))
  have V15 : Arv Z h15 a1 k .byte z ((vs.set 0 (.int ((p2 >>> ((0 : Int32) &&& 31)).toInt8.toInt32))).set 1 (.int ((p2 >>> ((8 : Int32) &&& 31)).toInt8.toInt32))) (.int (0 : Int32)) := Arv.set Ar15 q15 Sz15 M15 H15 G15 (fits_nar_byte _) W15 1 rfl (by first | (simp only [List.length_set]; omega) | omega)
  have N15 := Fr.snoc X15 N8 g_a1
  exact fin1 X15 (v := none) (fun _ => rfl) hlk (wl rfl) (wl rfl) (by rw [e15]; exact ⟨rfl, N15, K17, V15⟩) (fun fs hr => hEF ▸ pre16 _ (X15.returnOut hx Bd.returns (B d14_53) hr))
abbrev rKKt1 : Room := { frames := 2, cells := 1, slots := 2, locals := 24 }
theorem d15_0 : decode jdk_52_method_14_code 0 = .ok (.iload_n 2, 1) := by decide +kernel
theorem d15_1 : decode jdk_52_method_14_code 1 = .ok (.invokestatic 107, 3) := by decide +kernel
theorem d15_4 : decode jdk_52_method_14_code 4 = .ok (.astore_n 3, 1) := by decide +kernel
theorem d15_5 : decode jdk_52_method_14_code 5 = .ok (.iconst 0, 1) := by decide +kernel
theorem d15_6 : decode jdk_52_method_14_code 6 = .ok (.istore 4, 2) := by decide +kernel
theorem d15_8 : decode jdk_52_method_14_code 8 = .ok (.iload 4, 2) := by decide +kernel
theorem d15_10 : decode jdk_52_method_14_code 10 = .ok (.iload_n 2, 1) := by decide +kernel
theorem d15_11 : decode jdk_52_method_14_code 11 = .ok (.if_icmp .ge 21, 3) := by decide +kernel
theorem d15_14 : decode jdk_52_method_14_code 14 = .ok (.aload_n 3, 1) := by decide +kernel
theorem d15_15 : decode jdk_52_method_14_code 15 = .ok (.iload 4, 2) := by decide +kernel
theorem d15_17 : decode jdk_52_method_14_code 17 = .ok (.aload_n 0, 1) := by decide +kernel
theorem d15_18 : decode jdk_52_method_14_code 18 = .ok (.iload_n 1, 1) := by decide +kernel
theorem d15_19 : decode jdk_52_method_14_code 19 = .ok (.caload, 1) := by decide +kernel
theorem d15_20 : decode jdk_52_method_14_code 20 = .ok (.invokestatic 111, 3) := by decide +kernel
theorem d15_23 : decode jdk_52_method_14_code 23 = .ok (.iinc 1 1, 3) := by decide +kernel
theorem d15_26 : decode jdk_52_method_14_code 26 = .ok (.iinc 4 1, 3) := by decide +kernel
theorem d15_29 : decode jdk_52_method_14_code 29 = .ok (.goto (-21), 3) := by decide +kernel
theorem d15_32 : decode jdk_52_method_14_code 32 = .ok (.aload_n 3, 1) := by decide +kernel
theorem d15_33 : decode jdk_52_method_14_code 33 = .ok (.areturn, 1) := by decide +kernel
theorem pd8 : parseMethodDescriptor "(I)[B" = some ⟨[.int], some (.array .byte)⟩ := by decide +kernel
theorem pd9 : parseMethodDescriptor "([BII)V" = some ⟨[(.array .byte), .int, .int], none⟩ := by decide +kernel
theorem efKt1 (m : MethodId) (a1 : Addr) : entryFrame m #[(.ref a1), (.int (0 : Int32)), (.int (1 : Int32))] 5 = mkF m 0 #[rv a1, iv (0 : Int32), iv (1 : Int32), .unset, .unset] [] := by first | (simp [entryFrame, mkF, argsToLocals, Value.category]; done) | rfl
def QKt1 (Z : State) (a1 : Addr) (cz : Int32) (fv : Value) (k1 : ClassId) (c0 : Int32) (h0 : Heap) (n0 : Nat) (v : Option Value) (h : Heap) (L : List Loc) : Prop := ∃ b k, v = some (.ref b) ∧ Fr n0 L ∧ Keep h0 h [] ∧ h0.size ≤ b ∧ Arv Z h b k .byte (2 : Int32) [(.int (lo8 c0)), (.int (hi8 c0))] (.int (0 : Int32))
set_option maxRecDepth 65536 in
set_option maxHeartbeats 40000000 in
theorem rmKt1 (l : Launch) (Z : State) (a0 : Array Value) (hw : HW a0 Z) (ws : List Jvm.Cond) (a1 : Addr) (cz : Int32) (fv : Value) (k1 : ClassId) (c0 : Int32) (h0 : Heap) (n0 : Nat) (Z0 : n0 ≤ h0.size) (O0 : Old Z n0 h0) (J0 : Jd Z cz fv) (V1 : Arv Z h0 a1 k1 .char (1 : Int32) [(.int c0)] (.int (0 : Int32))) :
    MF l Z mN15 jdk_52_method_14_code 5 (some (.array .byte)) ws rKKt1 #[(.ref a1), (.int (0 : Int32)), (.int (1 : Int32))] h0 (QKt1 Z a1 cz fv k1 c0 h0 n0) := by
  refine MetFree.of_bodySF (plainFor_of_name pn3) hisR ?_
  intro p e s m args bl meth c s1 Bd hml0 hP hK
  obtain ⟨rfl, hZ, hh⟩ := hP
  have hx := Bd.exec
  have hby := Bd.bytes
  have B := @hb c _ hby
  have hM := fun {n : Nat} (h : n = 5) => h.trans hml0.symm
  have hown : s.vm.findClass "java/lang/StringUTF16" = some m.cls := findClass_of_methodNamed Bd.named
  have hlk : meth.locks = false := BodyLoose.notSynchronized Bd
  have hrt : ∀ {v : Option Value}, meth.sig.returnType = none → v = none := fun h => by rw [Bd.returns] at h; cases h
  have X0 : Stand p l e rKKt1 s m #[(.ref a1), (.int (0 : Int32)), (.int (1 : Int32))] bl meth c s1 [] 0 0 := Stand.of_body Bd
  have e0 : s1.heap = h0 := by rw [← hh, Bd.state]; rfl
  have N0 := Fr.nil n0
  obtain ⟨EF, hEF⟩ : ∃ f, f = entryFrame m #[(.ref a1), (.int (0 : Int32)), (.int (1 : Int32))] 5 := ⟨_, rfl⟩
  have pre0 : Go p e bl s1 (mkF m 0 #[rv a1, iv (0 : Int32), iv (1 : Int32), .unset, .unset] []) s1 EF := fun t k => by rw [hEF]; exact castTop (efKt1 m a1) k
  have pre1 : Go p e bl s1 (mkF m 1 #[rv a1, iv (0 : Int32), iv (1 : Int32), .unset, .unset] [(.int (1 : Int32))]) s1 EF := fun t k => pre0 t (by
   exact XS.iloadN X0.here hx rfl (B d15_0) rfl k)
  obtain ⟨_, _, ⟨T2, L2, k2, n2⟩, -, X2, ⟨Lc2, hQ2, l2, y2, z2⟩, st2⟩ := Jvm.LawKit.callS X0 hx (y := mN13) hown (mvT hZ (hw _ (mW 86 rfl))) (mvT hZ (hw _ (mW 87 rfl))) (mvT hZ (hw _ (mW 45 rfl))) (mvT hZ (hw _ (mW 88 rfl))) (by decide) (backOf (W := 0) (rmKf1 l Z a0 hw []  cz fv  h0 n0 Z0 O0 J0 ) hZ (hw _ (mW 88 rfl)) (hw _ (mW 45 rfl)) (by decide) (by decide)) (g := (mkF m 1 #[rv a1, iv (0 : Int32), iv (1 : Int32), .unset, .unset] [(.int (1 : Int32))])) rfl (hM rfl) (argsL := [(.int (1 : Int32))]) (rest := []) (lenOf pd8 rfl) rfl (Nat.le_of_eq rfl) (B d15_1) (fun _ _ => ⟨rfl, e0, wl rfl, wl rfl⟩)
  dsimp only [Pt.U, Pt.locs, Pt.cells, Pt.slots] at X2 l2 y2 z2 st2 hQ2
  subst l2 y2 z2
  obtain ⟨bt, kb2, rfl, N2q, K2, hsz2, VB2⟩ := hQ2
  have N2 := Fr.app N0 N2q
  have pre3 : Go p e bl T2 (mkF m 4 #[rv a1, iv (0 : Int32), iv (1 : Int32), .unset, .unset] [(.ref bt)]) s1 EF := fun t k => pre1 t (st2 t k)
  have O4 : Old Z n0 T2.heap := O0.keep K2 all0
  have Z4 : n0 ≤ T2.heap.size := Nat.le_trans Z0 K2.1
  have K4 : Keep h0 T2.heap [] := (Keep.refl h0 []).trans K2 all0
  have g_bt : n0 ≤ bt := Nat.le_trans Z0 hsz2
  have sz_bt : h0.size ≤ bt := Nat.le_trans (Keep.refl h0 []).1 hsz2
  have ne_a1_bt : a1 ≠ bt := Nat.ne_of_lt (Nat.lt_of_lt_of_le V1.lt hsz2)
  have pre5 : Go p e bl T2 (mkF m 11 #[rv a1, iv (0 : Int32), iv (1 : Int32), rv bt, iv (0 : Int32)] [(.int (1 : Int32)), (.int (0 : Int32))]) s1 EF := fun t k => pre3 t (by
   refine XS.astoreN X2.here hx rfl (B d15_4) rfl rfl (l' := #[rv a1, iv (0 : Int32), iv (1 : Int32), rv bt, .unset]) rfl ?_
   refine XS.iconst X2.here hx rfl (B d15_5) ?_
   refine XS.istore X2.here hx rfl (B d15_6) rfl (l' := #[rv a1, iv (0 : Int32), iv (1 : Int32), rv bt, iv (0 : Int32)]) rfl ?_
   refine XS.iload X2.here hx rfl (B d15_8) rfl ?_
   exact XS.iloadN X2.here hx rfl (B d15_10) rfl k)
  have pre6 : Go p e bl T2 (mkF m 14 #[rv a1, iv (0 : Int32), iv (1 : Int32), rv bt, iv (0 : Int32)] []) s1 EF := fun t k => pre5 t (XS.icmpNo X2.here hx rfl (B d15_11) rfl (tlt (by decide : (0 : Int32) < (1 : Int32))).2.1 k)
  have pre7 : Go p e bl T2 (mkF m 19 #[rv a1, iv (0 : Int32), iv (1 : Int32), rv bt, iv (0 : Int32)] [(.int (0 : Int32)), (.ref a1), (.int (0 : Int32)), (.ref bt)]) s1 EF := fun t k => pre6 t (by
   refine XS.aloadN X2.here hx rfl (B d15_14) rfl rfl ?_
   refine XS.iload X2.here hx rfl (B d15_15) rfl ?_
   refine XS.aloadN X2.here hx rfl (B d15_17) rfl rfl ?_
   exact XS.iloadN X2.here hx rfl (B d15_18) rfl k)
  obtain ⟨cl8, Ar8, q8, Sz8, M8, H8, G8⟩ := id (V1.keep K2 nin0)
  have hin8 : ¬ ((0 : Int32) < 0 ∨ cl8.slots.size ≤ ((0 : Int32)).toNatClampNeg) := inb_of Sz8 ⟨by decide, by decide⟩
  have hat8 : cl8.slots[((0 : Int32)).toNatClampNeg]? = some (.int c0) := Has.at H8 hin8 rfl
  have pre9 : Go p e bl T2 (mkF m 20 #[rv a1, iv (0 : Int32), iv (1 : Int32), rv bt, iv (0 : Int32)] [(.int c0), (.int (0 : Int32)), (.ref bt)]) s1 EF := fun t k => pre7 t (by
   exact X2.caload hx (j := (0 : Int32)) (v := (.int c0)) Ar8.1 (State.isArrayOf_alike hZ.alike Ar8.2.1) Ar8.2.2 hin8 hat8 (g := (mkF m 19 #[rv a1, iv (0 : Int32), iv (1 : Int32), rv bt, iv (0 : Int32)] [(.int (0 : Int32)), (.ref a1), (.int (0 : Int32)), (.ref bt)])) rfl rfl (B d15_19) _ k)
  obtain ⟨_, _, ⟨T10, L10, k10, n10⟩, -, X10, ⟨Lc10, hQ10, l10, y10, z10⟩, st10⟩ := Jvm.LawKit.callS X2 hx (y := mN14) hown (mvT hZ (hw _ (mW 93 rfl))) (mvT hZ (hw _ (mW 94 rfl))) (mvT hZ (hw _ (mW 45 rfl))) (mvT hZ (hw _ (mW 95 rfl))) (by decide) (backOf (W := 0) (rmKp0 l Z a0 hw [] bt c0 cz fv kb2 (2 : Int32) _ T2.heap n0 Z4 O4 J0 VB2 g_bt (by decide) (by decide) (Nat.le_of_ble_eq_true rfl)) hZ (hw _ (mW 95 rfl)) (hw _ (mW 45 rfl)) (by decide) (by decide)) (g := (mkF m 20 #[rv a1, iv (0 : Int32), iv (1 : Int32), rv bt, iv (0 : Int32)] [(.int c0), (.int (0 : Int32)), (.ref bt)])) rfl (hM rfl) (argsL := [(.ref bt), (.int (0 : Int32)), (.int c0)]) (rest := []) (lenOf pd9 rfl) rfl (Nat.le_of_eq rfl) (B d15_20) (fun _ _ => ⟨rfl, rfl, wl rfl, wl rfl⟩)
  dsimp only [Pt.U, Pt.locs, Pt.cells, Pt.slots] at X10 l10 y10 z10 st10 hQ10
  subst l10 y10 z10
  obtain ⟨rfl, N10q, K10, VQ10⟩ := hQ10
  have N10 := Fr.app N2 N10q
  have pre11 : Go p e bl T10 (mkF m 23 #[rv a1, iv (0 : Int32), iv (1 : Int32), rv bt, iv (0 : Int32)] []) s1 EF := fun t k => pre9 t (st10 t k)
  have O12 : Old Z n0 T10.heap := O4.keep K10 (allS g_bt all0)
  have Z12 : n0 ≤ T10.heap.size := Nat.le_trans Z4 K10.1
  have K12 : Keep h0 T10.heap [] := K4.trans K10 (allS (Or.inr sz_bt) all0)
  have VP10 : Arv Z T10.heap bt kb2 .byte (2 : Int32) [(.int (lo8 c0)), (.int (hi8 c0))] (.int (0 : Int32)) := VQ10
  have pre13 : Go p e bl T10 (mkF m 11 #[rv a1, iv (1 : Int32), iv (1 : Int32), rv bt, iv (1 : Int32)] [(.int (1 : Int32)), (.int (1 : Int32))]) s1 EF := fun t k => pre11 t (by
   refine XS.iinc X10.here hx rfl (B d15_23) rfl (l' := #[rv a1, iv (1 : Int32), iv (1 : Int32), rv bt, iv (0 : Int32)]) rfl ?_
   refine XS.iinc X10.here hx rfl (B d15_26) rfl (l' := #[rv a1, iv (1 : Int32), iv (1 : Int32), rv bt, iv (1 : Int32)]) rfl ?_
   refine XS.goto X10.here hx rfl (pc0 := 29) (pc' := 8) rfl (B d15_29) (by decide) (by decide) ?_
   refine XS.iload X10.here hx rfl (B d15_8) rfl ?_
   exact XS.iloadN X10.here hx rfl (B d15_10) rfl k)
  have pre14 : Go p e bl T10 (mkF m 32 #[rv a1, iv (1 : Int32), iv (1 : Int32), rv bt, iv (1 : Int32)] []) s1 EF := fun t k => pre13 t (XS.icmpYes X10.here hx rfl (pc0 := 11) (pc' := 32) rfl (B d15_11) rfl (flt (by decide : ¬ ((1 : Int32) < (1 : Int32)))).2.1 (by decide) (by decide) k)
  have pre15 : Go p e bl T10 (mkF m 33 #[rv a1, iv (1 : Int32), iv (1 : Int32), rv bt, iv (1 : Int32)] [(.ref bt)]) s1 EF := fun t k => pre14 t (by
   exact XS.aloadN X10.here hx rfl (B d15_32) rfl rfl k)
  exact fin1 X10 (v := some (.ref bt)) hrt hlk (wl rfl) (wl rfl) (by exact ⟨_, _, rfl, N10, K12, sz_bt, VP10⟩) (fun fs hr => hEF ▸ pre15 _ (retOut X10 hx Bd.returns rfl (Or.inr (Or.inr (Or.inr (Or.inr ⟨rfl, rfl, rfl⟩)))) (B d15_33) hr))
abbrev rKKb1 : Room := { frames := 3, cells := 2, slots := 3, locals := 40 }
theorem d16_0 : decode jdk_52_method_16_code 0 = .ok (.iload_n 2, 1) := by decide +kernel
theorem d16_1 : decode jdk_52_method_16_code 1 = .ok (.newarray .byte, 2) := by decide +kernel
theorem d16_3 : decode jdk_52_method_16_code 3 = .ok (.astore_n 3, 1) := by decide +kernel
theorem d16_4 : decode jdk_52_method_16_code 4 = .ok (.aload_n 0, 1) := by decide +kernel
theorem d16_5 : decode jdk_52_method_16_code 5 = .ok (.iload_n 1, 1) := by decide +kernel
theorem d16_6 : decode jdk_52_method_16_code 6 = .ok (.aload_n 3, 1) := by decide +kernel
theorem d16_7 : decode jdk_52_method_16_code 7 = .ok (.iconst 0, 1) := by decide +kernel
theorem d16_8 : decode jdk_52_method_16_code 8 = .ok (.iload_n 2, 1) := by decide +kernel
theorem d16_9 : decode jdk_52_method_16_code 9 = .ok (.invokestatic 115, 3) := by decide +kernel
theorem d16_12 : decode jdk_52_method_16_code 12 = .ok (.istore 4, 2) := by decide +kernel
theorem d16_14 : decode jdk_52_method_16_code 14 = .ok (.iload 4, 2) := by decide +kernel
theorem d16_16 : decode jdk_52_method_16_code 16 = .ok (.iload_n 2, 1) := by decide +kernel
theorem d16_17 : decode jdk_52_method_16_code 17 = .ok (.if_icmp .eq 40, 3) := by decide +kernel
theorem d16_20 : decode jdk_52_method_16_code 20 = .ok (.aload_n 0, 1) := by decide +kernel
theorem d16_21 : decode jdk_52_method_16_code 21 = .ok (.iload_n 1, 1) := by decide +kernel
theorem d16_22 : decode jdk_52_method_16_code 22 = .ok (.iload_n 2, 1) := by decide +kernel
theorem d16_23 : decode jdk_52_method_16_code 23 = .ok (.invokestatic 119, 3) := by decide +kernel
theorem d16_26 : decode jdk_52_method_16_code 26 = .ok (.astore 5, 2) := by decide +kernel
theorem d16_28 : decode jdk_52_method_16_code 28 = .ok (.aload 5, 2) := by decide +kernel
theorem d16_30 : decode jdk_52_method_16_code 30 = .ok (.iload 4, 2) := by decide +kernel
theorem d16_32 : decode jdk_52_method_16_code 32 = .ok (.invokestatic 71, 3) := by decide +kernel
theorem d16_35 : decode jdk_52_method_16_code 35 = .ok (.sipush 255, 3) := by decide +kernel
theorem d16_38 : decode jdk_52_method_16_code 38 = .ok (.if_icmp .gt 16, 3) := by decide +kernel
theorem d16_54 : decode jdk_52_method_16_code 54 = .ok (.aload 5, 2) := by decide +kernel
theorem d16_56 : decode jdk_52_method_16_code 56 = .ok (.areturn, 1) := by decide +kernel
theorem d16_57 : decode jdk_52_method_16_code 57 = .ok (.aload_n 3, 1) := by decide +kernel
theorem d16_58 : decode jdk_52_method_16_code 58 = .ok (.areturn, 1) := by decide +kernel
theorem pd10 : parseMethodDescriptor "([CI[BII)I" = some ⟨[(.array .char), .int, (.array .byte), .int, .int], some .int⟩ := by decide +kernel
theorem pd11 : parseMethodDescriptor "([CII)[B" = some ⟨[(.array .char), .int, .int], some (.array .byte)⟩ := by decide +kernel
theorem efKb1 (m : MethodId) (a1 : Addr) : entryFrame m #[(.ref a1), (.int (0 : Int32)), (.int (1 : Int32))] 6 = mkF m 0 #[rv a1, iv (0 : Int32), iv (1 : Int32), .unset, .unset, .unset] [] := by first | (simp [entryFrame, mkF, argsToLocals, Value.category]; done) | rfl
def QKb1 (Z : State) (a1 : Addr) (cz : Int32) (fv : Value) (k1 : ClassId) (c0 : Int32) (h0 : Heap) (n0 : Nat) (v : Option Value) (h : Heap) (L : List Loc) : Prop := (∃ b k, v = some (.ref b) ∧ Fr n0 L ∧ Keep h0 h [] ∧ h0.size ≤ b ∧ (∀ c ∈ [c0], ¬ (255 : Int32) < c) ∧ Arv Z h b k .byte (1 : Int32) [(.int (c0.toInt8.toInt32))] (.int (0 : Int32))) ∨ (∃ b k, v = some (.ref b) ∧ Fr n0 L ∧ Keep h0 h [] ∧ h0.size ≤ b ∧ Arv Z h b k .byte (2 : Int32) [(.int (lo8 c0)), (.int (hi8 c0))] (.int (0 : Int32)))
set_option maxRecDepth 65536 in
set_option maxHeartbeats 40000000 in
theorem rmKb1 (l : Launch) (Z : State) (a0 : Array Value) (hw : HW a0 Z) (ws : List Jvm.Cond) (a1 : Addr) (cz : Int32) (fv : Value) (k1 : ClassId) (c0 : Int32) (h0 : Heap) (n0 : Nat) (Z0 : n0 ≤ h0.size) (O0 : Old Z n0 h0) (J0 : Jd Z cz fv) (V1 : Arv Z h0 a1 k1 .char (1 : Int32) [(.int c0)] (.int (0 : Int32))) (hrg : ∀ c ∈ [c0], 0 ≤ c.toInt ∧ c.toInt < 65536) :
    MF l Z mN16 jdk_52_method_16_code 6 (some (.array .byte)) ws rKKb1 #[(.ref a1), (.int (0 : Int32)), (.int (1 : Int32))] h0 (QKb1 Z a1 cz fv k1 c0 h0 n0) := by
  refine MetFree.of_bodySF (plainFor_of_name pn3) hisR ?_
  intro p e s m args bl meth c s1 Bd hml0 hP hK
  obtain ⟨rfl, hZ, hh⟩ := hP
  have hx := Bd.exec
  have hby := Bd.bytes
  have B := @hb c _ hby
  have hM := fun {n : Nat} (h : n = 6) => h.trans hml0.symm
  have hown : s.vm.findClass "java/lang/StringUTF16" = some m.cls := findClass_of_methodNamed Bd.named
  have hlk : meth.locks = false := BodyLoose.notSynchronized Bd
  have hrt : ∀ {v : Option Value}, meth.sig.returnType = none → v = none := fun h => by rw [Bd.returns] at h; cases h
  have X0 : Stand p l e rKKb1 s m #[(.ref a1), (.int (0 : Int32)), (.int (1 : Int32))] bl meth c s1 [] 0 0 := Stand.of_body Bd
  have e0 : s1.heap = h0 := by rw [← hh, Bd.state]; rfl
  have N0 := Fr.nil n0
  obtain ⟨EF, hEF⟩ : ∃ f, f = entryFrame m #[(.ref a1), (.int (0 : Int32)), (.int (1 : Int32))] 6 := ⟨_, rfl⟩
  have pre0 : Go p e bl s1 (mkF m 0 #[rv a1, iv (0 : Int32), iv (1 : Int32), .unset, .unset, .unset] []) s1 EF := fun t k => by rw [hEF]; exact castTop (efKb1 m a1) k
  have pre1 : Go p e bl s1 (mkF m 1 #[rv a1, iv (0 : Int32), iv (1 : Int32), .unset, .unset, .unset] [(.int (1 : Int32))]) s1 EF := fun t k => pre0 t (by
   exact XS.iloadN X0.here hx rfl (B d16_0) rfl k)
  obtain ⟨T2, h2, k2, X2, e2, Et2, A2, st2⟩ := newP X0 hx hZ (hw _ (mW 21 rfl)) e0 (g := (mkF m 1 #[rv a1, iv (0 : Int32), iv (1 : Int32), .unset, .unset, .unset] [(.int (1 : Int32))])) rfl (B d16_1) rfl (by decide) (cap := 1) (by decide) (by decide) (by decide) (by decide)
  obtain ⟨b2, g2⟩ : ∃ z, z = h0.size := ⟨_, rfl⟩
  rw [← g2] at A2 st2
  have g_b2 : n0 ≤ b2 := Nat.le_trans Z0 (Nat.le_of_eq g2.symm)
  have sz_b2 : h0.size ≤ b2 := Nat.le_trans (Keep.refl h0 []).1 (Nat.le_of_eq g2.symm)
  have ne_a1_b2 : a1 ≠ b2 := Nat.ne_of_lt (Nat.lt_of_lt_of_le V1.lt (Nat.le_of_eq g2.symm))
  have pre3 : Go p e bl T2 (mkF m 3 #[rv a1, iv (0 : Int32), iv (1 : Int32), .unset, .unset, .unset] [(.ref b2)]) s1 EF := fun t k => pre1 t (st2 t k)
  have O4 : Old Z n0 h2 := O0.ext Et2
  have Z4 : n0 ≤ h2.size := Nat.le_trans Z0 Et2.1
  have K4 : Keep h0 h2 [] := (Keep.refl h0 []).ext Et2
  have V2 : Arv Z h2 b2 k2 .byte (1 : Int32) [(.int (0 : Int32))] (.int (0 : Int32)) := (Arv.new A2 (by decide)).pad (pad_rep [] (.int (0 : Int32)) 1)
  have pre5 : Go p e bl T2 (mkF m 9 #[rv a1, iv (0 : Int32), iv (1 : Int32), rv b2, .unset, .unset] [(.int (1 : Int32)), (.int (0 : Int32)), (.ref b2), (.int (0 : Int32)), (.ref a1)]) s1 EF := fun t k => pre3 t (by
   refine XS.astoreN X2.here hx rfl (B d16_3) rfl rfl (l' := #[rv a1, iv (0 : Int32), iv (1 : Int32), rv b2, .unset, .unset]) rfl ?_
   refine XS.aloadN X2.here hx rfl (B d16_4) rfl rfl ?_
   refine XS.iloadN X2.here hx rfl (B d16_5) rfl ?_
   refine XS.aloadN X2.here hx rfl (B d16_6) rfl rfl ?_
   refine XS.iconst X2.here hx rfl (B d16_7) ?_
   exact XS.iloadN X2.here hx rfl (B d16_8) rfl k)
  obtain ⟨_, _, ⟨T6, L6, k6, n6⟩, -, X6, ⟨Lc6, hQ6, l6, y6, z6⟩, st6⟩ := Jvm.LawKit.callS X2 hx (y := mN11) hown (mvT hZ (hw _ (mW 47 rfl))) (mvT hZ (hw _ (mW 48 rfl))) (mvT hZ (hw _ (mW 45 rfl))) (mvT hZ (hw _ (mW 49 rfl))) (by decide) (backOf (W := 0) (rmKa1 l Z a0 hw [] a1 b2 cz fv k1 k2 c0 h2 n0 Z4 O4 J0 (V1.ext Et2) V2 ne_a1_b2 g_b2) hZ (hw _ (mW 49 rfl)) (hw _ (mW 45 rfl)) (by decide) (by decide)) (g := (mkF m 9 #[rv a1, iv (0 : Int32), iv (1 : Int32), rv b2, .unset, .unset] [(.int (1 : Int32)), (.int (0 : Int32)), (.ref b2), (.int (0 : Int32)), (.ref a1)])) rfl (hM rfl) (argsL := [(.ref a1), (.int (0 : Int32)), (.ref b2), (.int (0 : Int32)), (.int (1 : Int32))]) (rest := []) (lenOf pd10 rfl) rfl (Nat.le_of_eq rfl) (B d16_9) (fun _ _ => ⟨rfl, e2, wl rfl, wl rfl⟩)
  dsimp only [Pt.U, Pt.locs, Pt.cells, Pt.slots] at X6 l6 y6 z6 st6 hQ6
  subst l6 y6 z6
  rcases hQ6 with ⟨rfl, N6q, K6, LE6, VL6⟩ | ⟨iB, cB, rfl, N6q, K6, hi06, hni6, hci6, hgt6⟩
  · have N6 := Fr.app N0 N6q
    have pre7 : Go p e bl T6 (mkF m 12 #[rv a1, iv (0 : Int32), iv (1 : Int32), rv b2, .unset, .unset] [(.int (1 : Int32))]) s1 EF := fun t k => pre5 t (st6 t k)
    have O8 : Old Z n0 T6.heap := O4.keep K6 (allS g_b2 all0)
    have Z8 : n0 ≤ T6.heap.size := Nat.le_trans Z4 K6.1
    have K8 : Keep h0 T6.heap [] := K4.trans K6 (allS (Or.inr sz_b2) all0)
    have pre9 : Go p e bl T6 (mkF m 17 #[rv a1, iv (0 : Int32), iv (1 : Int32), rv b2, iv (1 : Int32), .unset] [(.int (1 : Int32)), (.int (1 : Int32))]) s1 EF := fun t k => pre7 t (by
     refine XS.istore X6.here hx rfl (B d16_12) rfl (l' := #[rv a1, iv (0 : Int32), iv (1 : Int32), rv b2, iv (1 : Int32), .unset]) rfl ?_
     refine XS.iload X6.here hx rfl (B d16_14) rfl ?_
     exact XS.iloadN X6.here hx rfl (B d16_16) rfl k)
    have pre10 : Go p e bl T6 (mkF m 57 #[rv a1, iv (0 : Int32), iv (1 : Int32), rv b2, iv (1 : Int32), .unset] []) s1 EF := fun t k => pre9 t (XS.icmpYes X6.here hx rfl (pc0 := 17) (pc' := 57) rfl (B d16_17) rfl (teq (by decide : (1 : Int32) = (1 : Int32))).1 (by decide) (by decide) k)
    have pre11 : Go p e bl T6 (mkF m 58 #[rv a1, iv (0 : Int32), iv (1 : Int32), rv b2, iv (1 : Int32), .unset] [(.ref b2)]) s1 EF := fun t k => pre10 t (by
     exact XS.aloadN X6.here hx rfl (B d16_57) rfl rfl k)
    exact fin1 X6 (v := some (.ref b2)) hrt hlk (wl rfl) (wl rfl) (by exact Or.inl ⟨_, _, rfl, N6, K8, sz_b2, LE6, VL6⟩) (fun fs hr => hEF ▸ pre11 _ (retOut X6 hx Bd.returns rfl (Or.inr (Or.inr (Or.inr (Or.inr ⟨rfl, rfl, rfl⟩)))) (B d16_58) hr))
  have N6 := Fr.app N0 N6q
  have pre12 : Go p e bl T6 (mkF m 12 #[rv a1, iv (0 : Int32), iv (1 : Int32), rv b2, .unset, .unset] [(.int iB)]) s1 EF := fun t k => pre5 t (st6 t k)
  have O13 : Old Z n0 T6.heap := O4.keep K6 (allS g_b2 all0)
  have Z13 : n0 ≤ T6.heap.size := Nat.le_trans Z4 K6.1
  have K13 : Keep h0 T6.heap [] := K4.trans K6 (allS (Or.inr sz_b2) all0)
  have pre14 : Go p e bl T6 (mkF m 17 #[rv a1, iv (0 : Int32), iv (1 : Int32), rv b2, iv iB, .unset] [(.int (1 : Int32)), (.int iB)]) s1 EF := fun t k => pre12 t (by
   refine XS.istore X6.here hx rfl (B d16_12) rfl (l' := #[rv a1, iv (0 : Int32), iv (1 : Int32), rv b2, iv iB, .unset]) rfl ?_
   refine XS.iload X6.here hx rfl (B d16_14) rfl ?_
   exact XS.iloadN X6.here hx rfl (B d16_16) rfl k)
  have pre15 : Go p e bl T6 (mkF m 20 #[rv a1, iv (0 : Int32), iv (1 : Int32), rv b2, iv iB, .unset] []) s1 EF := fun t k => pre14 t (XS.icmpNo X6.here hx rfl (B d16_17) rfl (feq hni6).1 k)
  have pre16 : Go p e bl T6 (mkF m 23 #[rv a1, iv (0 : Int32), iv (1 : Int32), rv b2, iv iB, .unset] [(.int (1 : Int32)), (.int (0 : Int32)), (.ref a1)]) s1 EF := fun t k => pre15 t (by
   refine XS.aloadN X6.here hx rfl (B d16_20) rfl rfl ?_
   refine XS.iloadN X6.here hx rfl (B d16_21) rfl ?_
   exact XS.iloadN X6.here hx rfl (B d16_22) rfl k)
  obtain ⟨_, _, ⟨T17, L17, k17, n17⟩, -, X17, ⟨Lc17, hQ17, l17, y17, z17⟩, st17⟩ := Jvm.LawKit.callS X6 hx (y := mN15) hown (mvT hZ (hw _ (mW 83 rfl))) (mvT hZ (hw _ (mW 84 rfl))) (mvT hZ (hw _ (mW 45 rfl))) (mvT hZ (hw _ (mW 85 rfl))) (by decide) (backOf (W := 0) (rmKt1 l Z a0 hw [] a1 cz fv k1 c0 T6.heap n0 Z13 O13 J0 ((V1.ext Et2).keep K6 (ninS ne_a1_b2 nin0))) hZ (hw _ (mW 85 rfl)) (hw _ (mW 45 rfl)) (by decide) (by decide)) (g := (mkF m 23 #[rv a1, iv (0 : Int32), iv (1 : Int32), rv b2, iv iB, .unset] [(.int (1 : Int32)), (.int (0 : Int32)), (.ref a1)])) rfl (hM rfl) (argsL := [(.ref a1), (.int (0 : Int32)), (.int (1 : Int32))]) (rest := []) (lenOf pd11 rfl) rfl (Nat.le_of_eq rfl) (B d16_23) (fun _ _ => ⟨rfl, rfl, wl rfl, wl rfl⟩)
  dsimp only [Pt.U, Pt.locs, Pt.cells, Pt.slots] at X17 l17 y17 z17 st17 hQ17
  subst l17 y17 z17
  obtain ⟨bw, kb17, rfl, N17q, K17, hsz17, VB17⟩ := hQ17
  have N17 := Fr.app N6 N17q
  have pre18 : Go p e bl T17 (mkF m 26 #[rv a1, iv (0 : Int32), iv (1 : Int32), rv b2, iv iB, .unset] [(.ref bw)]) s1 EF := fun t k => pre16 t (st17 t k)
  have O19 : Old Z n0 T17.heap := O13.keep K17 all0
  have Z19 : n0 ≤ T17.heap.size := Nat.le_trans Z13 K17.1
  have K19 : Keep h0 T17.heap [] := K13.trans K17 all0
  have g_bw : n0 ≤ bw := Nat.le_trans Z13 hsz17
  have sz_bw : h0.size ≤ bw := Nat.le_trans K13.1 hsz17
  have ne_a1_bw : a1 ≠ bw := Nat.ne_of_lt (Nat.lt_of_lt_of_le ((V1.ext Et2).keep K6 (ninS ne_a1_b2 nin0)).lt hsz17)
  have pre20 : Go p e bl T17 (mkF m 32 #[rv a1, iv (0 : Int32), iv (1 : Int32), rv b2, iv iB, rv bw] [(.int iB), (.ref bw)]) s1 EF := fun t k => pre18 t (by
   refine XS.astore X17.here hx rfl (B d16_26) rfl rfl (l' := #[rv a1, iv (0 : Int32), iv (1 : Int32), rv b2, iv iB, rv bw]) rfl ?_
   refine XS.aload X17.here hx rfl (B d16_28) rfl rfl ?_
   exact XS.iload X17.here hx rfl (B d16_30) rfl k)
  have hrB := hrg cB (List.mem_of_getElem? hci6)
  have hgB := own_gx (cs := [c0]) (z := (2 : Int32)) hi06 hci6 (by rfl) (Nat.le_of_ble_eq_true rfl)
  obtain ⟨_, _, ⟨T21, L21, k21, n21⟩, -, X21, ⟨Lc21, hQ21, l21, y21, z21⟩, st21⟩ := Jvm.LawKit.callS X17 hx (y := mN8) hown (mvT hZ (hw _ (mW 99 rfl))) (mvT hZ (hw _ (mW 100 rfl))) (mvT hZ (hw _ (mW 45 rfl))) (mvT hZ (hw _ (mW 101 rfl))) (by decide) (backOf (W := 0) (rmJgc l Z a0 hw [] bw iB cz fv kb17 (2 : Int32) _ cB cB T17.heap n0 Z19 O19 J0 VB17 hgB.1 hgB.2.1 hgB.2.2.1 hgB.2.2.2 hrB.1 hrB.2 rfl) hZ (hw _ (mW 101 rfl)) (hw _ (mW 45 rfl)) (by decide) (by decide)) (g := (mkF m 32 #[rv a1, iv (0 : Int32), iv (1 : Int32), rv b2, iv iB, rv bw] [(.int iB), (.ref bw)])) rfl (hM rfl) (argsL := [(.ref bw), (.int iB)]) (rest := []) (lenOf pd5 rfl) rfl (Nat.le_of_eq rfl) (B d16_32) (fun _ _ => ⟨rfl, rfl, wl rfl, wl rfl⟩)
  dsimp only [Pt.U, Pt.locs, Pt.cells, Pt.slots] at X21 l21 y21 z21 st21 hQ21
  subst l21 y21 z21
  obtain ⟨rfl, N21q, hq21⟩ := hQ21
  have N21 := Fr.app N17 N21q
  have pre22 : Go p e bl T21 (mkF m 35 #[rv a1, iv (0 : Int32), iv (1 : Int32), rv b2, iv iB, rv bw] [(.int cB)]) s1 EF := fun t k => pre20 t (st21 t k)
  have e21 : T21.heap = T17.heap := hq21
  have pre23 : Go p e bl T21 (mkF m 38 #[rv a1, iv (0 : Int32), iv (1 : Int32), rv b2, iv iB, rv bw] [(.int (255 : Int32)), (.int cB)]) s1 EF := fun t k => pre22 t (by
   exact XS.sipush X21.here hx rfl (B d16_35) k)
  have pre24 : Go p e bl T21 (mkF m 54 #[rv a1, iv (0 : Int32), iv (1 : Int32), rv b2, iv iB, rv bw] []) s1 EF := fun t k => pre23 t (XS.icmpYes X21.here hx rfl (pc0 := 38) (pc' := 54) rfl (B d16_38) rfl (tlt hgt6).2.2.1 (by decide) (by decide) k)
  have pre25 : Go p e bl T21 (mkF m 56 #[rv a1, iv (0 : Int32), iv (1 : Int32), rv b2, iv iB, rv bw] [(.ref bw)]) s1 EF := fun t k => pre24 t (by
   exact XS.aload X21.here hx rfl (B d16_54) rfl rfl k)
  exact fin1 X21 (v := some (.ref bw)) hrt hlk (wl rfl) (wl rfl) (by rw [e21]; exact Or.inr ⟨_, _, rfl, N21, K19, sz_bw, VB17⟩) (fun fs hr => hEF ▸ pre25 _ (retOut X21 hx Bd.returns rfl (Or.inr (Or.inr (Or.inr (Or.inr ⟨rfl, rfl, rfl⟩)))) (B d16_56) hr))
abbrev rKKc1_0 : Room := { frames := 0, cells := 0, slots := 0, locals := 0 }
theorem d17_0 : decode jdk_52_method_15_code 0 = .ok (.iload_n 1, 1) := by decide +kernel
theorem d17_1 : decode jdk_52_method_15_code 1 = .ok (.aload_n 0, 1) := by decide +kernel
theorem d17_2 : decode jdk_52_method_15_code 2 = .ok (.arraylength, 1) := by decide +kernel
theorem d17_3 : decode jdk_52_method_15_code 3 = .ok (.isub, 1) := by decide +kernel
theorem d17_4 : decode jdk_52_method_15_code 4 = .ok (.bipush 31, 2) := by decide +kernel
theorem d17_6 : decode jdk_52_method_15_code 6 = .ok (.iushr, 1) := by decide +kernel
theorem d17_7 : decode jdk_52_method_15_code 7 = .ok (.i2b, 1) := by decide +kernel
theorem d17_8 : decode jdk_52_method_15_code 8 = .ok (.ireturn, 1) := by decide +kernel
theorem efKc1_0 (m : MethodId) (a1 : Addr) : entryFrame m #[(.ref a1), (.int (1 : Int32))] 2 = mkF m 0 #[rv a1, iv (1 : Int32)] [] := by first | (simp [entryFrame, mkF, argsToLocals, Value.category]; done) | rfl
def QKc1_0 (Z : State) (a1 : Addr) (cz : Int32) (fv : Value) (k : ClassId) (vs : List Value) (h0 : Heap) (n0 : Nat) (v : Option Value) (h : Heap) (L : List Loc) : Prop := v = some (.int (0 : Int32)) ∧ Fr n0 L ∧ h = h0
set_option maxRecDepth 65536 in
set_option maxHeartbeats 40000000 in
theorem rmKc1_0 (l : Launch) (Z : State) (a0 : Array Value) (hw : HW a0 Z) (ws : List Jvm.Cond) (a1 : Addr) (cz : Int32) (fv : Value) (k : ClassId) (vs : List Value) (h0 : Heap) (n0 : Nat) (Z0 : n0 ≤ h0.size) (O0 : Old Z n0 h0) (J0 : Jd Z cz fv) (VV : Arv Z h0 a1 k .byte (1 : Int32) vs (.int 0)) :
    MF l Z mN17 jdk_52_method_15_code 2 (some .byte) ws rKKc1_0 #[(.ref a1), (.int (1 : Int32))] h0 (QKc1_0 Z a1 cz fv k vs h0 n0) := by
  refine MetFree.of_bodySF (plainFor_of_name pn3) hisR ?_
  intro p e s m args bl meth c s1 Bd hml0 hP hK
  obtain ⟨rfl, hZ, hh⟩ := hP
  have hx := Bd.exec
  have hby := Bd.bytes
  have B := @hb c _ hby
  have hown : s.vm.findClass "java/lang/StringUTF16" = some m.cls := findClass_of_methodNamed Bd.named
  have hlk : meth.locks = false := BodyLoose.notSynchronized Bd
  have hrt : ∀ {v : Option Value}, meth.sig.returnType = none → v = none := fun h => by rw [Bd.returns] at h; cases h
  have X0 : Stand p l e rKKc1_0 s m #[(.ref a1), (.int (1 : Int32))] bl meth c s1 [] 0 0 := Stand.of_body Bd
  have e0 : s1.heap = h0 := by rw [← hh, Bd.state]; rfl
  have N0 := Fr.nil n0
  obtain ⟨EF, hEF⟩ : ∃ f, f = entryFrame m #[(.ref a1), (.int (1 : Int32))] 2 := ⟨_, rfl⟩
  have pre0 : Go p e bl s1 (mkF m 0 #[rv a1, iv (1 : Int32)] []) s1 EF := fun t k => by rw [hEF]; exact castTop (efKc1_0 m a1) k
  have pre1 : Go p e bl s1 (mkF m 2 #[rv a1, iv (1 : Int32)] [(.ref a1), (.int (1 : Int32))]) s1 EF := fun t k => pre0 t (by
   refine XS.iloadN X0.here hx rfl (B d17_0) rfl ?_
   exact XS.aloadN X0.here hx rfl (B d17_1) rfl rfl k)
  obtain ⟨cl2, Ar2, q2, Sz2, M2, H2, G2⟩ := id VV
  have pre3 : Go p e bl s1 (mkF m 8 #[rv a1, iv (1 : Int32)] [(.int (0 : Int32))]) s1 EF := fun t k => pre1 t (by
   refine X0.arraylength hx (by rw [e0]; exact Ar2.1) (State.isArrayOf_alike hZ.alike Ar2.2.1) (g := (mkF m 2 #[rv a1, iv (1 : Int32)] [(.ref a1), (.int (1 : Int32))])) rfl rfl (B d17_2) _ ?_
   rw [len_of Sz2 M2]
   refine XS.isub X0.here hx rfl (B d17_3) rfl ?_
   refine XS.bipush X0.here hx rfl (B d17_4) ?_
   refine XS.iushr X0.here hx rfl (B d17_6) rfl ?_
   exact XS.i2b X0.here hx rfl (B d17_7) rfl k)
  have hnr : Value.int (nar .byte (0 : Int32)) = (.int (0 : Int32)) := by rfl
  exact fin1 X0 (v := some (.int (0 : Int32))) hrt hlk (wl rfl) (wl rfl) (by rw [e0]; exact ⟨rfl, N0, rfl⟩) (fun fs hr => hEF ▸ pre3 _ (retN X0 hx (t := .byte) Bd.returns (by simp) (B d17_8) (hnr ▸ hr)))
abbrev rKKc1_1 : Room := { frames := 0, cells := 0, slots := 0, locals := 0 }
theorem efKc1_1 (m : MethodId) (a1 : Addr) : entryFrame m #[(.ref a1), (.int (1 : Int32))] 2 = mkF m 0 #[rv a1, iv (1 : Int32)] [] := by first | (simp [entryFrame, mkF, argsToLocals, Value.category]; done) | rfl
def QKc1_1 (Z : State) (a1 : Addr) (cz : Int32) (fv : Value) (k : ClassId) (vs : List Value) (h0 : Heap) (n0 : Nat) (v : Option Value) (h : Heap) (L : List Loc) : Prop := v = some (.int (1 : Int32)) ∧ Fr n0 L ∧ h = h0
set_option maxRecDepth 65536 in
set_option maxHeartbeats 40000000 in
theorem rmKc1_1 (l : Launch) (Z : State) (a0 : Array Value) (hw : HW a0 Z) (ws : List Jvm.Cond) (a1 : Addr) (cz : Int32) (fv : Value) (k : ClassId) (vs : List Value) (h0 : Heap) (n0 : Nat) (Z0 : n0 ≤ h0.size) (O0 : Old Z n0 h0) (J0 : Jd Z cz fv) (VV : Arv Z h0 a1 k .byte (2 : Int32) vs (.int 0)) :
    MF l Z mN17 jdk_52_method_15_code 2 (some .byte) ws rKKc1_1 #[(.ref a1), (.int (1 : Int32))] h0 (QKc1_1 Z a1 cz fv k vs h0 n0) := by
  refine MetFree.of_bodySF (plainFor_of_name pn3) hisR ?_
  intro p e s m args bl meth c s1 Bd hml0 hP hK
  obtain ⟨rfl, hZ, hh⟩ := hP
  have hx := Bd.exec
  have hby := Bd.bytes
  have B := @hb c _ hby
  have hown : s.vm.findClass "java/lang/StringUTF16" = some m.cls := findClass_of_methodNamed Bd.named
  have hlk : meth.locks = false := BodyLoose.notSynchronized Bd
  have hrt : ∀ {v : Option Value}, meth.sig.returnType = none → v = none := fun h => by rw [Bd.returns] at h; cases h
  have X0 : Stand p l e rKKc1_1 s m #[(.ref a1), (.int (1 : Int32))] bl meth c s1 [] 0 0 := Stand.of_body Bd
  have e0 : s1.heap = h0 := by rw [← hh, Bd.state]; rfl
  have N0 := Fr.nil n0
  obtain ⟨EF, hEF⟩ : ∃ f, f = entryFrame m #[(.ref a1), (.int (1 : Int32))] 2 := ⟨_, rfl⟩
  have pre0 : Go p e bl s1 (mkF m 0 #[rv a1, iv (1 : Int32)] []) s1 EF := fun t k => by rw [hEF]; exact castTop (efKc1_1 m a1) k
  have pre1 : Go p e bl s1 (mkF m 2 #[rv a1, iv (1 : Int32)] [(.ref a1), (.int (1 : Int32))]) s1 EF := fun t k => pre0 t (by
   refine XS.iloadN X0.here hx rfl (B d17_0) rfl ?_
   exact XS.aloadN X0.here hx rfl (B d17_1) rfl rfl k)
  obtain ⟨cl2, Ar2, q2, Sz2, M2, H2, G2⟩ := id VV
  have pre3 : Go p e bl s1 (mkF m 8 #[rv a1, iv (1 : Int32)] [(.int (1 : Int32))]) s1 EF := fun t k => pre1 t (by
   refine X0.arraylength hx (by rw [e0]; exact Ar2.1) (State.isArrayOf_alike hZ.alike Ar2.2.1) (g := (mkF m 2 #[rv a1, iv (1 : Int32)] [(.ref a1), (.int (1 : Int32))])) rfl rfl (B d17_2) _ ?_
   rw [len_of Sz2 M2]
   refine XS.isub X0.here hx rfl (B d17_3) rfl ?_
   refine XS.bipush X0.here hx rfl (B d17_4) ?_
   refine XS.iushr X0.here hx rfl (B d17_6) rfl ?_
   exact XS.i2b X0.here hx rfl (B d17_7) rfl k)
  have hnr : Value.int (nar .byte (1 : Int32)) = (.int (1 : Int32)) := by rfl
  exact fin1 X0 (v := some (.int (1 : Int32))) hrt hlk (wl rfl) (wl rfl) (by rw [e0]; exact ⟨rfl, N0, rfl⟩) (fun fs hr => hEF ▸ pre3 _ (retN X0 hx (t := .byte) Bd.returns (by simp) (B d17_8) (hnr ▸ hr)))
abbrev rKKi1 : Room := { frames := 4, cells := 2, slots := 3, locals := 57 }
theorem d18_0 : decode jdk_42_method_149_code 0 = .ok (.aload_n 0, 1) := by decide +kernel
theorem d18_1 : decode jdk_42_method_149_code 1 = .ok (.invokespecial 1, 3) := by decide +kernel
theorem d18_4 : decode jdk_42_method_149_code 4 = .ok (.iload_n 3, 1) := by decide +kernel
theorem d18_5 : decode jdk_42_method_149_code 5 = .ok (.ifCond .ne 22, 3) := by decide +kernel
theorem d18_27 : decode jdk_42_method_149_code 27 = .ok (.getstatic 38, 3) := by decide +kernel
theorem d18_30 : decode jdk_42_method_149_code 30 = .ok (.ifCond .eq 28, 3) := by decide +kernel
theorem d18_33 : decode jdk_42_method_149_code 33 = .ok (.aload_n 1, 1) := by decide +kernel
theorem d18_34 : decode jdk_42_method_149_code 34 = .ok (.iload_n 2, 1) := by decide +kernel
theorem d18_35 : decode jdk_42_method_149_code 35 = .ok (.iload_n 3, 1) := by decide +kernel
theorem d18_36 : decode jdk_42_method_149_code 36 = .ok (.invokestatic 177, 3) := by decide +kernel
theorem d18_39 : decode jdk_42_method_149_code 39 = .ok (.astore 5, 2) := by decide +kernel
theorem d18_41 : decode jdk_42_method_149_code 41 = .ok (.aload_n 0, 1) := by decide +kernel
theorem d18_42 : decode jdk_42_method_149_code 42 = .ok (.aload 5, 2) := by decide +kernel
theorem d18_44 : decode jdk_42_method_149_code 44 = .ok (.iload_n 3, 1) := by decide +kernel
theorem d18_45 : decode jdk_42_method_149_code 45 = .ok (.invokestatic 47, 3) := by decide +kernel
theorem d18_48 : decode jdk_42_method_149_code 48 = .ok (.putfield 15, 3) := by decide +kernel
theorem d18_51 : decode jdk_42_method_149_code 51 = .ok (.aload_n 0, 1) := by decide +kernel
theorem d18_52 : decode jdk_42_method_149_code 52 = .ok (.aload 5, 2) := by decide +kernel
theorem d18_54 : decode jdk_42_method_149_code 54 = .ok (.putfield 9, 3) := by decide +kernel
theorem d18_57 : decode jdk_42_method_149_code 57 = .ok (.return_, 1) := by decide +kernel
theorem pd12 : parseMethodDescriptor "([BI)B" = some ⟨[(.array .byte), .int], some .byte⟩ := by decide +kernel
theorem efKi1 (m : MethodId) (a1 : Addr) (a2 : Addr) : entryFrame m #[(.ref a1), (.ref a2), (.int (0 : Int32)), (.int (1 : Int32)), .null] 6 = mkF m 0 #[rv a1, rv a2, iv (0 : Int32), iv (1 : Int32), .val .null, .unset] [] := by first | (simp [entryFrame, mkF, argsToLocals, Value.category]; done) | rfl
def QKi1 (Z : State) (a1 : Addr) (a2 : Addr) (cz : Int32) (fv : Value) (k1 : ClassId) (c0 : Int32) (h0 : Heap) (n0 : Nat) (v : Option Value) (h : Heap) (L : List Loc) : Prop := v = none ∧ Fr n0 L ∧ Keep h0 h [a1] ∧ Str Z h a1 [c0]
set_option maxRecDepth 65536 in
set_option maxHeartbeats 40000000 in
theorem rmKi1 (l : Launch) (Z : State) (a0 : Array Value) (hw : HW a0 Z) (ws : List Jvm.Cond) (a1 : Addr) (a2 : Addr) (cz : Int32) (fv : Value) (k1 : ClassId) (c0 : Int32) (h0 : Heap) (n0 : Nat) (Z0 : n0 ≤ h0.size) (O0 : Old Z n0 h0) (J0 : Jd Z cz fv) (E1 : Exa Z h0 a1 "java/lang/String") (g_a1 : n0 ≤ a1) (F1 : Fld Z h0 a1 "java/lang/String" "value" "[B" .null) (F2 : Fld Z h0 a1 "java/lang/String" "coder" "B" (.int (0 : Int32))) (V2 : Arv Z h0 a2 k1 .char (1 : Int32) [(.int c0)] (.int (0 : Int32))) (hrg : ∀ c ∈ [c0], 0 ≤ c.toInt ∧ c.toInt < 65536) :
    MF l Z mN18 jdk_42_method_149_code 6 none ws rKKi1 #[(.ref a1), (.ref a2), (.int (0 : Int32)), (.int (1 : Int32)), .null] h0 (QKi1 Z a1 a2 cz fv k1 c0 h0 n0) := by
  refine MetFree.of_bodySF (plainFor_of_name pn0) hisR ?_
  intro p e s m args bl meth c s1 Bd hml0 hP hK
  obtain ⟨rfl, hZ, hh⟩ := hP
  have hx := Bd.exec
  have hby := Bd.bytes
  have B := @hb c _ hby
  have hM := fun {n : Nat} (h : n = 6) => h.trans hml0.symm
  have hown : s.vm.findClass "java/lang/String" = some m.cls := findClass_of_methodNamed Bd.named
  have hnm := (name_of_methodNamed Bd.named Bd.method).1
  have hlk : meth.locks = false := BodyLoose.notSynchronized Bd
  have X0 : Stand p l e rKKi1 s m #[(.ref a1), (.ref a2), (.int (0 : Int32)), (.int (1 : Int32)), .null] bl meth c s1 [] 0 0 := Stand.of_body Bd
  have e0 : s1.heap = h0 := by rw [← hh, Bd.state]; rfl
  have N0 := Fr.nil n0
  obtain ⟨EF, hEF⟩ : ∃ f, f = entryFrame m #[(.ref a1), (.ref a2), (.int (0 : Int32)), (.int (1 : Int32)), .null] 6 := ⟨_, rfl⟩
  have pre0 : Go p e bl s1 (mkF m 0 #[rv a1, rv a2, iv (0 : Int32), iv (1 : Int32), .val .null, .unset] []) s1 EF := fun t k => by rw [hEF]; exact castTop (efKi1 m a1 a2) k
  have pre1 : Go p e bl s1 (mkF m 1 #[rv a1, rv a2, iv (0 : Int32), iv (1 : Int32), .val .null, .unset] [(.ref a1)]) s1 EF := fun t k => pre0 t (by
   exact XS.aloadN X0.here hx rfl (B d18_0) rfl rfl k)
  obtain ⟨T2, X2, e2, st2⟩ := initO X0 hx hZ hown (hw _ (mW 17 rfl)) (hw _ (mW 18 rfl)) (hw _ (mW 19 rfl)) e0 (g := (mkF m 1 #[rv a1, rv a2, iv (0 : Int32), iv (1 : Int32), .val .null, .unset] [(.ref a1)])) rfl (hM rfl) rfl (B d18_1) (by decide) (W := 0) (Nat.le_of_eq rfl) (by decide)
  have pre3 : Go p e bl T2 (mkF m 4 #[rv a1, rv a2, iv (0 : Int32), iv (1 : Int32), .val .null, .unset] []) s1 EF := fun t k => pre1 t (st2 t k)
  have pre4 : Go p e bl T2 (mkF m 5 #[rv a1, rv a2, iv (0 : Int32), iv (1 : Int32), .val .null, .unset] [(.int (1 : Int32))]) s1 EF := fun t k => pre3 t (by
   exact XS.iloadN X2.here hx rfl (B d18_4) rfl k)
  have pre5 : Go p e bl T2 (mkF m 27 #[rv a1, rv a2, iv (0 : Int32), iv (1 : Int32), .val .null, .unset] []) s1 EF := fun t k => pre4 t (XS.ifYes X2.here hx rfl (pc0 := 5) (pc' := 27) rfl (B d18_5) rfl ((if0 _ _).trans (feq (by decide : ¬ ((1 : Int32) = (0 : Int32)))).2) (by decide) (by decide) k)
  obtain ⟨T6, X6, e6, st6⟩ := getS2 X2 hx hZ hown (host := "") (Or.inl (hw _ (mW 42 rfl))) Via.refl e2 (J0.1.ext O0.2) (g := (mkF m 27 #[rv a1, rv a2, iv (0 : Int32), iv (1 : Int32), .val .null, .unset] [])) rfl (B d18_27)
  have pre7 : Go p e bl T6 (mkF m 30 #[rv a1, rv a2, iv (0 : Int32), iv (1 : Int32), .val .null, .unset] [(.int cz)]) s1 EF := fun t k => pre5 t (st6 t k)
  have pre8 : Go p e bl T6 (mkF m 33 #[rv a1, rv a2, iv (0 : Int32), iv (1 : Int32), .val .null, .unset] []) s1 EF := fun t k => pre7 t (XS.ifNo X6.here hx rfl (B d18_30) rfl ((if0 _ _).trans (feq J0.2.1).1) k)
  have pre9 : Go p e bl T6 (mkF m 36 #[rv a1, rv a2, iv (0 : Int32), iv (1 : Int32), .val .null, .unset] [(.int (1 : Int32)), (.int (0 : Int32)), (.ref a2)]) s1 EF := fun t k => pre8 t (by
   refine XS.aloadN X6.here hx rfl (B d18_33) rfl rfl ?_
   refine XS.iloadN X6.here hx rfl (B d18_34) rfl ?_
   exact XS.iloadN X6.here hx rfl (B d18_35) rfl k)
  obtain ⟨_, _, ⟨T10, L10, k10, n10⟩, -, X10, ⟨Lc10, hQ10, l10, y10, z10⟩, st10⟩ := Jvm.LawKit.callS X6 hx (y := mN16) hown (mvT hZ (hw _ (mW 43 rfl))) (mvT hZ (hw _ (mW 44 rfl))) (mvT hZ (hw _ (mW 45 rfl))) (mvT hZ (hw _ (mW 46 rfl))) (by decide) (backOf (W := 0) (rmKb1 l Z a0 hw [] a2 cz fv k1 c0 h0 n0 Z0 O0 J0 V2 hrg) hZ (hw _ (mW 46 rfl)) (hw _ (mW 45 rfl)) (by decide) (by decide)) (g := (mkF m 36 #[rv a1, rv a2, iv (0 : Int32), iv (1 : Int32), .val .null, .unset] [(.int (1 : Int32)), (.int (0 : Int32)), (.ref a2)])) rfl (hM rfl) (argsL := [(.ref a2), (.int (0 : Int32)), (.int (1 : Int32))]) (rest := []) (lenOf pd11 rfl) rfl (Nat.le_of_eq rfl) (B d18_36) (fun _ _ => ⟨rfl, e6, wl rfl, wl rfl⟩)
  dsimp only [Pt.U, Pt.locs, Pt.cells, Pt.slots] at X10 l10 y10 z10 st10 hQ10
  subst l10 y10 z10
  rcases hQ10 with ⟨bv, kb10, rfl, N10q, K10, hsz10, LE10, VB10⟩ | ⟨bv, kb10, rfl, N10q, K10, hsz10, VB10⟩
  · have N10 := Fr.app N0 N10q
    have pre11 : Go p e bl T10 (mkF m 39 #[rv a1, rv a2, iv (0 : Int32), iv (1 : Int32), .val .null, .unset] [(.ref bv)]) s1 EF := fun t k => pre9 t (st10 t k)
    have O12 : Old Z n0 T10.heap := O0.keep K10 all0
    have Z12 : n0 ≤ T10.heap.size := Nat.le_trans Z0 K10.1
    have K12 : Keep h0 T10.heap [a1] := (Keep.refl h0 [a1]).trans K10 all0
    have g_bv : n0 ≤ bv := Nat.le_trans Z0 hsz10
    have sz_bv : h0.size ≤ bv := Nat.le_trans (Keep.refl h0 [a1]).1 hsz10
    have ne_a1_bv : a1 ≠ bv := Nat.ne_of_lt (Nat.lt_of_lt_of_le E1.lt hsz10)
    have pre13 : Go p e bl T10 (mkF m 45 #[rv a1, rv a2, iv (0 : Int32), iv (1 : Int32), .val .null, rv bv] [(.int (1 : Int32)), (.ref bv), (.ref a1)]) s1 EF := fun t k => pre11 t (by
     refine XS.astore X10.here hx rfl (B d18_39) rfl rfl (l' := #[rv a1, rv a2, iv (0 : Int32), iv (1 : Int32), .val .null, rv bv]) rfl ?_
     refine XS.aloadN X10.here hx rfl (B d18_41) rfl rfl ?_
     refine XS.aload X10.here hx rfl (B d18_42) rfl rfl ?_
     exact XS.iloadN X10.here hx rfl (B d18_44) rfl k)
    obtain ⟨_, _, ⟨T14, L14, k14, n14⟩, -, X14, ⟨Lc14, hQ14, l14, y14, z14⟩, st14⟩ := Jvm.LawKit.callS X10 hx (y := mN17) hown (mvT hZ (hw _ (mW 50 rfl))) (mvT hZ (hw _ (mW 51 rfl))) (mvT hZ (hw _ (mW 45 rfl))) (mvT hZ (hw _ (mW 52 rfl))) (by decide) (backOf (W := 1) (rmKc1_0 l Z a0 hw [] bv cz fv kb10 _ T10.heap n0 Z12 O12 J0 VB10) hZ (hw _ (mW 52 rfl)) (hw _ (mW 45 rfl)) (by decide) (by decide)) (g := (mkF m 45 #[rv a1, rv a2, iv (0 : Int32), iv (1 : Int32), .val .null, rv bv] [(.int (1 : Int32)), (.ref bv), (.ref a1)])) rfl (hM rfl) (argsL := [(.ref bv), (.int (1 : Int32))]) (rest := [(.ref a1)]) (lenOf pd12 rfl) rfl (Nat.le_of_eq rfl) (B d18_45) (fun _ _ => ⟨rfl, rfl, wl rfl, wl rfl⟩)
    dsimp only [Pt.U, Pt.locs, Pt.cells, Pt.slots] at X14 l14 y14 z14 st14 hQ14
    subst l14 y14 z14
    obtain ⟨rfl, N14q, hq14⟩ := hQ14
    have N14 := Fr.app N10 N14q
    have pre15 : Go p e bl T14 (mkF m 48 #[rv a1, rv a2, iv (0 : Int32), iv (1 : Int32), .val .null, rv bv] [(.int (0 : Int32)), (.ref a1)]) s1 EF := fun t k => pre13 t (st14 t k)
    have e14 : T14.heap = T10.heap := hq14
    obtain ⟨T16, h16, X16, e16, W16, st16⟩ := putFN X14 hx hZ hown (hw _ (mW 27 rfl)) Via.refl e14 (F2.keep K10 nin0) (E1.keep K10) (Or.inr ⟨(hw _ (mW 23 rfl)), rfl, hnm⟩) (hw _ (mW 7 rfl)) (ty := .byte) (v' := (.int (0 : Int32))) (by decide) rfl rfl (g := (mkF m 48 #[rv a1, rv a2, iv (0 : Int32), iv (1 : Int32), .val .null, rv bv] [(.int (0 : Int32)), (.ref a1)])) rfl rfl (B d18_48)
    have pre17 : Go p e bl T16 (mkF m 51 #[rv a1, rv a2, iv (0 : Int32), iv (1 : Int32), .val .null, rv bv] []) s1 EF := fun t k => pre15 t (st16 t k)
    have O18 : Old Z n0 h16 := O12.wr W16 g_a1
    have Z18 : n0 ≤ h16.size := Nat.le_trans Z12 (Keep.of_wr W16).1
    have K18 : Keep h0 h16 [a1] := K12.wr W16 (Or.inl (List.mem_of_getElem? (i := 0) rfl))
    have Fw16 := Fld.same W16 (F2.keep K10 nin0)
    have N16 := Fr.snoc X16 N14 g_a1
    have pre19 : Go p e bl T16 (mkF m 54 #[rv a1, rv a2, iv (0 : Int32), iv (1 : Int32), .val .null, rv bv] [(.ref bv), (.ref a1)]) s1 EF := fun t k => pre17 t (by
     refine XS.aloadN X16.here hx rfl (B d18_51) rfl rfl ?_
     exact XS.aload X16.here hx rfl (B d18_52) rfl rfl k)
    obtain ⟨T20, h20, X20, e20, W20, st20⟩ := putF X16 hx hZ hown (host := "") (Or.inl (hw _ (mW 26 rfl))) Via.refl e16 (Fld.other W16 (F1.keep K10 nin0) (Or.inr (slot_ne (Or.inr (hw _ (mW 22 rfl))) (Or.inr (hw _ (mW 23 rfl))) (by decide) (t := (.array .byte)) (t' := .byte) (by decide) (by decide)))) ((E1.keep K10).wr W16) (Or.inr ⟨(hw _ (mW 22 rfl)), rfl, hnm⟩) (hw _ (mW 7 rfl)) (ty := (.array .byte)) (by decide) rfl rfl (g := (mkF m 54 #[rv a1, rv a2, iv (0 : Int32), iv (1 : Int32), .val .null, rv bv] [(.ref bv), (.ref a1)])) rfl rfl (B d18_54)
    have pre21 : Go p e bl T20 (mkF m 57 #[rv a1, rv a2, iv (0 : Int32), iv (1 : Int32), .val .null, rv bv] []) s1 EF := fun t k => pre19 t (st20 t k)
    have O22 : Old Z n0 h20 := O18.wr W20 g_a1
    have Z22 : n0 ≤ h20.size := Nat.le_trans Z18 (Keep.of_wr W20).1
    have K22 : Keep h0 h20 [a1] := K18.wr W20 (Or.inl (List.mem_of_getElem? (i := 0) rfl))
    have Fw20 := Fld.same W20 (Fld.other W16 (F1.keep K10 nin0) (Or.inr (slot_ne (Or.inr (hw _ (mW 22 rfl))) (Or.inr (hw _ (mW 23 rfl))) (by decide) (t := (.array .byte)) (t' := .byte) (by decide) (by decide))))
    have N20 := Fr.snoc X20 N16 g_a1
    exact fin1 X20 (v := none) (fun _ => rfl) hlk (wl rfl) (wl rfl) (by rw [e20]; exact ⟨rfl, N20, K22, ⟨_, _, _, _, _, (((E1.keep K10).wr W16).wr W20), (Fld.other W20 Fw16 (Or.inr (slot_ne (Or.inr (hw _ (mW 23 rfl))) (Or.inr (hw _ (mW 22 rfl))) (by decide) (t := .byte) (t' := (.array .byte)) (by decide) (by decide)))), Fw20, ((VB10.other W16 (Ne.symm ne_a1_bv)).other W20 (Ne.symm ne_a1_bv)), Nat.le_of_ble_eq_true rfl, Or.inl ⟨rfl, by rfl, rfl, own_le hrg LE10⟩⟩⟩) (fun fs hr => hEF ▸ pre21 _ (X20.returnOut hx Bd.returns (B d18_57) hr))
  have N10 := Fr.app N0 N10q
  have pre23 : Go p e bl T10 (mkF m 39 #[rv a1, rv a2, iv (0 : Int32), iv (1 : Int32), .val .null, .unset] [(.ref bv)]) s1 EF := fun t k => pre9 t (st10 t k)
  have O24 : Old Z n0 T10.heap := O0.keep K10 all0
  have Z24 : n0 ≤ T10.heap.size := Nat.le_trans Z0 K10.1
  have K24 : Keep h0 T10.heap [a1] := (Keep.refl h0 [a1]).trans K10 all0
  have g_bv : n0 ≤ bv := Nat.le_trans Z0 hsz10
  have sz_bv : h0.size ≤ bv := Nat.le_trans (Keep.refl h0 [a1]).1 hsz10
  have ne_a1_bv : a1 ≠ bv := Nat.ne_of_lt (Nat.lt_of_lt_of_le E1.lt hsz10)
  have pre25 : Go p e bl T10 (mkF m 45 #[rv a1, rv a2, iv (0 : Int32), iv (1 : Int32), .val .null, rv bv] [(.int (1 : Int32)), (.ref bv), (.ref a1)]) s1 EF := fun t k => pre23 t (by
   refine XS.astore X10.here hx rfl (B d18_39) rfl rfl (l' := #[rv a1, rv a2, iv (0 : Int32), iv (1 : Int32), .val .null, rv bv]) rfl ?_
   refine XS.aloadN X10.here hx rfl (B d18_41) rfl rfl ?_
   refine XS.aload X10.here hx rfl (B d18_42) rfl rfl ?_
   exact XS.iloadN X10.here hx rfl (B d18_44) rfl k)
  obtain ⟨_, _, ⟨T26, L26, k26, n26⟩, -, X26, ⟨Lc26, hQ26, l26, y26, z26⟩, st26⟩ := Jvm.LawKit.callS X10 hx (y := mN17) hown (mvT hZ (hw _ (mW 50 rfl))) (mvT hZ (hw _ (mW 51 rfl))) (mvT hZ (hw _ (mW 45 rfl))) (mvT hZ (hw _ (mW 52 rfl))) (by decide) (backOf (W := 1) (rmKc1_1 l Z a0 hw [] bv cz fv kb10 _ T10.heap n0 Z24 O24 J0 VB10) hZ (hw _ (mW 52 rfl)) (hw _ (mW 45 rfl)) (by decide) (by decide)) (g := (mkF m 45 #[rv a1, rv a2, iv (0 : Int32), iv (1 : Int32), .val .null, rv bv] [(.int (1 : Int32)), (.ref bv), (.ref a1)])) rfl (hM rfl) (argsL := [(.ref bv), (.int (1 : Int32))]) (rest := [(.ref a1)]) (lenOf pd12 rfl) rfl (Nat.le_of_eq rfl) (B d18_45) (fun _ _ => ⟨rfl, rfl, wl rfl, wl rfl⟩)
  dsimp only [Pt.U, Pt.locs, Pt.cells, Pt.slots] at X26 l26 y26 z26 st26 hQ26
  subst l26 y26 z26
  obtain ⟨rfl, N26q, hq26⟩ := hQ26
  have N26 := Fr.app N10 N26q
  have pre27 : Go p e bl T26 (mkF m 48 #[rv a1, rv a2, iv (0 : Int32), iv (1 : Int32), .val .null, rv bv] [(.int (1 : Int32)), (.ref a1)]) s1 EF := fun t k => pre25 t (st26 t k)
  have e26 : T26.heap = T10.heap := hq26
  obtain ⟨T28, h28, X28, e28, W28, st28⟩ := putFN X26 hx hZ hown (hw _ (mW 27 rfl)) Via.refl e26 (F2.keep K10 nin0) (E1.keep K10) (Or.inr ⟨(hw _ (mW 23 rfl)), rfl, hnm⟩) (hw _ (mW 7 rfl)) (ty := .byte) (v' := (.int (1 : Int32))) (by decide) rfl rfl (g := (mkF m 48 #[rv a1, rv a2, iv (0 : Int32), iv (1 : Int32), .val .null, rv bv] [(.int (1 : Int32)), (.ref a1)])) rfl rfl (B d18_48)
  have pre29 : Go p e bl T28 (mkF m 51 #[rv a1, rv a2, iv (0 : Int32), iv (1 : Int32), .val .null, rv bv] []) s1 EF := fun t k => pre27 t (st28 t k)
  have O30 : Old Z n0 h28 := O24.wr W28 g_a1
  have Z30 : n0 ≤ h28.size := Nat.le_trans Z24 (Keep.of_wr W28).1
  have K30 : Keep h0 h28 [a1] := K24.wr W28 (Or.inl (List.mem_of_getElem? (i := 0) rfl))
  have Fw28 := Fld.same W28 (F2.keep K10 nin0)
  have N28 := Fr.snoc X28 N26 g_a1
  have pre31 : Go p e bl T28 (mkF m 54 #[rv a1, rv a2, iv (0 : Int32), iv (1 : Int32), .val .null, rv bv] [(.ref bv), (.ref a1)]) s1 EF := fun t k => pre29 t (by
   refine XS.aloadN X28.here hx rfl (B d18_51) rfl rfl ?_
   exact XS.aload X28.here hx rfl (B d18_52) rfl rfl k)
  obtain ⟨T32, h32, X32, e32, W32, st32⟩ := putF X28 hx hZ hown (host := "") (Or.inl (hw _ (mW 26 rfl))) Via.refl e28 (Fld.other W28 (F1.keep K10 nin0) (Or.inr (slot_ne (Or.inr (hw _ (mW 22 rfl))) (Or.inr (hw _ (mW 23 rfl))) (by decide) (t := (.array .byte)) (t' := .byte) (by decide) (by decide)))) ((E1.keep K10).wr W28) (Or.inr ⟨(hw _ (mW 22 rfl)), rfl, hnm⟩) (hw _ (mW 7 rfl)) (ty := (.array .byte)) (by decide) rfl rfl (g := (mkF m 54 #[rv a1, rv a2, iv (0 : Int32), iv (1 : Int32), .val .null, rv bv] [(.ref bv), (.ref a1)])) rfl rfl (B d18_54)
  have pre33 : Go p e bl T32 (mkF m 57 #[rv a1, rv a2, iv (0 : Int32), iv (1 : Int32), .val .null, rv bv] []) s1 EF := fun t k => pre31 t (st32 t k)
  have O34 : Old Z n0 h32 := O30.wr W32 g_a1
  have Z34 : n0 ≤ h32.size := Nat.le_trans Z30 (Keep.of_wr W32).1
  have K34 : Keep h0 h32 [a1] := K30.wr W32 (Or.inl (List.mem_of_getElem? (i := 0) rfl))
  have Fw32 := Fld.same W32 (Fld.other W28 (F1.keep K10 nin0) (Or.inr (slot_ne (Or.inr (hw _ (mW 22 rfl))) (Or.inr (hw _ (mW 23 rfl))) (by decide) (t := (.array .byte)) (t' := .byte) (by decide) (by decide))))
  have N32 := Fr.snoc X32 N28 g_a1
  exact fin1 X32 (v := none) (fun _ => rfl) hlk (wl rfl) (wl rfl) (by rw [e32]; exact ⟨rfl, N32, K34, ⟨_, _, _, _, _, (((E1.keep K10).wr W28).wr W32), (Fld.other W32 Fw28 (Or.inr (slot_ne (Or.inr (hw _ (mW 23 rfl))) (Or.inr (hw _ (mW 22 rfl))) (by decide) (t := .byte) (t' := (.array .byte)) (by decide) (by decide)))), Fw32, ((VB10.other W28 (Ne.symm ne_a1_bv)).other W32 (Ne.symm ne_a1_bv)), Nat.le_of_ble_eq_true rfl, Or.inr ⟨rfl, by rfl, rfl, hrg⟩⟩⟩) (fun fs hr => hEF ▸ pre33 _ (X32.returnOut hx Bd.returns (B d18_57) hr))
abbrev rKKj1 : Room := { frames := 5, cells := 2, slots := 3, locals := 74 }
theorem d19_0 : decode jdk_42_method_3_code 0 = .ok (.aload_n 0, 1) := by decide +kernel
theorem d19_1 : decode jdk_42_method_3_code 1 = .ok (.aload_n 1, 1) := by decide +kernel
theorem d19_2 : decode jdk_42_method_3_code 2 = .ok (.iconst 0, 1) := by decide +kernel
theorem d19_3 : decode jdk_42_method_3_code 3 = .ok (.aload_n 1, 1) := by decide +kernel
theorem d19_4 : decode jdk_42_method_3_code 4 = .ok (.arraylength, 1) := by decide +kernel
theorem d19_5 : decode jdk_42_method_3_code 5 = .ok (.aconst_null, 1) := by decide +kernel
theorem d19_6 : decode jdk_42_method_3_code 6 = .ok (.invokespecial 27, 3) := by decide +kernel
theorem d19_9 : decode jdk_42_method_3_code 9 = .ok (.return_, 1) := by decide +kernel
theorem pd13 : parseMethodDescriptor "([CIILjava/lang/Void;)V" = some ⟨[(.array .char), .int, .int, (.object "java/lang/Void")], none⟩ := by decide +kernel
theorem efKj1 (m : MethodId) (a1 : Addr) (a2 : Addr) : entryFrame m #[(.ref a1), (.ref a2)] 2 = mkF m 0 #[rv a1, rv a2] [] := by first | (simp [entryFrame, mkF, argsToLocals, Value.category]; done) | rfl
def QKj1 (Z : State) (a1 : Addr) (a2 : Addr) (cz : Int32) (fv : Value) (k1 : ClassId) (c0 : Int32) (h0 : Heap) (n0 : Nat) (v : Option Value) (h : Heap) (L : List Loc) : Prop := v = none ∧ Fr n0 L ∧ Keep h0 h [a1] ∧ Str Z h a1 [c0]
set_option maxRecDepth 65536 in
set_option maxHeartbeats 40000000 in
theorem rmKj1 (l : Launch) (Z : State) (a0 : Array Value) (hw : HW a0 Z) (ws : List Jvm.Cond) (a1 : Addr) (a2 : Addr) (cz : Int32) (fv : Value) (k1 : ClassId) (c0 : Int32) (h0 : Heap) (n0 : Nat) (Z0 : n0 ≤ h0.size) (O0 : Old Z n0 h0) (J0 : Jd Z cz fv) (E1 : Exa Z h0 a1 "java/lang/String") (g_a1 : n0 ≤ a1) (F1 : Fld Z h0 a1 "java/lang/String" "value" "[B" .null) (F2 : Fld Z h0 a1 "java/lang/String" "coder" "B" (.int (0 : Int32))) (V2 : Arv Z h0 a2 k1 .char (1 : Int32) [(.int c0)] (.int (0 : Int32))) (hrg : ∀ c ∈ [c0], 0 ≤ c.toInt ∧ c.toInt < 65536) :
    MF l Z mN19 jdk_42_method_3_code 2 none ws rKKj1 #[(.ref a1), (.ref a2)] h0 (QKj1 Z a1 a2 cz fv k1 c0 h0 n0) := by
  refine MetFree.of_bodySF (plainFor_of_name pn0) hisR ?_
  intro p e s m args bl meth c s1 Bd hml0 hP hK
  obtain ⟨rfl, hZ, hh⟩ := hP
  have hx := Bd.exec
  have hby := Bd.bytes
  have B := @hb c _ hby
  have hM := fun {n : Nat} (h : n = 2) => h.trans hml0.symm
  have hown : s.vm.findClass "java/lang/String" = some m.cls := findClass_of_methodNamed Bd.named
  have hlk : meth.locks = false := BodyLoose.notSynchronized Bd
  have X0 : Stand p l e rKKj1 s m #[(.ref a1), (.ref a2)] bl meth c s1 [] 0 0 := Stand.of_body Bd
  have e0 : s1.heap = h0 := by rw [← hh, Bd.state]; rfl
  have N0 := Fr.nil n0
  obtain ⟨EF, hEF⟩ : ∃ f, f = entryFrame m #[(.ref a1), (.ref a2)] 2 := ⟨_, rfl⟩
  have pre0 : Go p e bl s1 (mkF m 0 #[rv a1, rv a2] []) s1 EF := fun t k => by rw [hEF]; exact castTop (efKj1 m a1 a2) k
  have pre1 : Go p e bl s1 (mkF m 4 #[rv a1, rv a2] [(.ref a2), (.int (0 : Int32)), (.ref a2), (.ref a1)]) s1 EF := fun t k => pre0 t (by
   refine XS.aloadN X0.here hx rfl (B d19_0) rfl rfl ?_
   refine XS.aloadN X0.here hx rfl (B d19_1) rfl rfl ?_
   refine XS.iconst X0.here hx rfl (B d19_2) ?_
   exact XS.aloadN X0.here hx rfl (B d19_3) rfl rfl k)
  obtain ⟨cl2, Ar2, q2, Sz2, M2, H2, G2⟩ := id V2
  have pre3 : Go p e bl s1 (mkF m 6 #[rv a1, rv a2] [.null, (.int (1 : Int32)), (.int (0 : Int32)), (.ref a2), (.ref a1)]) s1 EF := fun t k => pre1 t (by
   refine X0.arraylength hx (by rw [e0]; exact Ar2.1) (State.isArrayOf_alike hZ.alike Ar2.2.1) (g := (mkF m 4 #[rv a1, rv a2] [(.ref a2), (.int (0 : Int32)), (.ref a2), (.ref a1)])) rfl rfl (B d19_4) _ ?_
   rw [len_of Sz2 M2]
   exact XS.aconstNull X0.here hx rfl (B d19_5) k)
  obtain ⟨_, _, ⟨T4, L4, k4, n4⟩, -, X4, ⟨Lc4, hQ4, l4, y4, z4⟩, st4⟩ := X0.specialBack hx (y := mN18) rfl hown (mvT hZ (hw _ (mW 13 rfl))) (mvT hZ (hw _ (mW 14 rfl))) (mvT hZ (hw _ (mW 16 rfl))) (by decide) (backOf (W := 0) (rmKi1 l Z a0 hw [] a1 a2 cz fv k1 c0 h0 n0 Z0 O0 J0 E1 g_a1 F1 F2 V2 hrg) hZ (hw _ (mW 16 rfl)) (hw _ (mW 8 rfl)) (by decide) (by decide)) (g := (mkF m 6 #[rv a1, rv a2] [.null, (.int (1 : Int32)), (.int (0 : Int32)), (.ref a2), (.ref a1)])) rfl (hM rfl) (Steps.refl _) (a := a1) (argsL := [(.ref a2), (.int (0 : Int32)), (.int (1 : Int32)), .null]) (rest := []) (lenOf pd13 rfl) rfl (Nat.le_of_eq rfl) (B d19_6) (fun _ _ => ⟨rfl, e0, wl rfl, wl rfl⟩)
  dsimp only [Pt.U, Pt.locs, Pt.cells, Pt.slots] at X4 l4 y4 z4 st4 hQ4
  subst l4 y4 z4
  obtain ⟨rfl, N4q, K4, SF4⟩ := hQ4
  have N4 := Fr.app N0 N4q
  have pre5 : Go p e bl T4 (mkF m 9 #[rv a1, rv a2] []) s1 EF := fun t k => pre3 t (st4.trans k)
  have O6 : Old Z n0 T4.heap := O0.keep K4 (allS g_a1 all0)
  have Z6 : n0 ≤ T4.heap.size := Nat.le_trans Z0 K4.1
  have K6 : Keep h0 T4.heap [a1] := (Keep.refl h0 [a1]).trans K4 (allS (Or.inl (List.mem_of_getElem? (i := 0) rfl)) all0)
  exact fin1 X4 (v := none) (fun _ => rfl) hlk (wl rfl) (wl rfl) (by exact ⟨rfl, N4, K6, SF4⟩) (fun fs hr => hEF ▸ pre5 _ (X4.returnOut hx Bd.returns (B d19_9) hr))
abbrev rKKa2 : Room := { frames := 0, cells := 0, slots := 0, locals := 0 }
theorem efKa2 (m : MethodId) (a1 : Addr) (a2 : Addr) : entryFrame m #[(.ref a1), (.int (0 : Int32)), (.ref a2), (.int (0 : Int32)), (.int (2 : Int32))] 7 = mkF m 0 #[rv a1, iv (0 : Int32), rv a2, iv (0 : Int32), iv (2 : Int32), .unset, .unset] [] := by first | (simp [entryFrame, mkF, argsToLocals, Value.category]; done) | rfl
def QKa2 (Z : State) (a1 : Addr) (a2 : Addr) (cz : Int32) (fv : Value) (k1 : ClassId) (k2 : ClassId) (c0 : Int32) (c1 : Int32) (h0 : Heap) (n0 : Nat) (v : Option Value) (h : Heap) (L : List Loc) : Prop := (v = some (.int (2 : Int32)) ∧ Fr n0 L ∧ Keep h0 h [a2] ∧ (∀ c ∈ [c0, c1], ¬ (255 : Int32) < c) ∧ Arv Z h a2 k2 .byte (2 : Int32) [(.int (c0.toInt8.toInt32)), (.int (c1.toInt8.toInt32))] (.int (0 : Int32))) ∨ (∃ (i ci : Int32), v = some (.int i) ∧ Fr n0 L ∧ Keep h0 h [a2] ∧ ¬ i < 0 ∧ ¬ i = (2 : Int32) ∧ [c0, c1][i.toNatClampNeg]? = some ci ∧ (255 : Int32) < ci)
set_option maxRecDepth 65536 in
set_option maxHeartbeats 40000000 in
theorem rmKa2 (l : Launch) (Z : State) (a0 : Array Value) (hw : HW a0 Z) (ws : List Jvm.Cond) (a1 : Addr) (a2 : Addr) (cz : Int32) (fv : Value) (k1 : ClassId) (k2 : ClassId) (c0 : Int32) (c1 : Int32) (h0 : Heap) (n0 : Nat) (Z0 : n0 ≤ h0.size) (O0 : Old Z n0 h0) (J0 : Jd Z cz fv) (V1 : Arv Z h0 a1 k1 .char (2 : Int32) [(.int c0), (.int c1)] (.int (0 : Int32))) (V2 : Arv Z h0 a2 k2 .byte (2 : Int32) [(.int (0 : Int32)), (.int (0 : Int32))] (.int (0 : Int32))) (ne12 : a1 ≠ a2) (g_a2 : n0 ≤ a2) :
    MF l Z mN11 jdk_52_method_21_code 7 (some .int) ws rKKa2 #[(.ref a1), (.int (0 : Int32)), (.ref a2), (.int (0 : Int32)), (.int (2 : Int32))] h0 (QKa2 Z a1 a2 cz fv k1 k2 c0 c1 h0 n0) := by
  refine MetFree.of_bodySF (plainFor_of_name pn3) hisR ?_
  intro p e s m args bl meth c s1 Bd hml0 hP hK
  obtain ⟨rfl, hZ, hh⟩ := hP
  have hx := Bd.exec
  have hby := Bd.bytes
  have B := @hb c _ hby
  have hown : s.vm.findClass "java/lang/StringUTF16" = some m.cls := findClass_of_methodNamed Bd.named
  have hlk : meth.locks = false := BodyLoose.notSynchronized Bd
  have hrt : ∀ {v : Option Value}, meth.sig.returnType = none → v = none := fun h => by rw [Bd.returns] at h; cases h
  have X0 : Stand p l e rKKa2 s m #[(.ref a1), (.int (0 : Int32)), (.ref a2), (.int (0 : Int32)), (.int (2 : Int32))] bl meth c s1 [] 0 0 := Stand.of_body Bd
  have e0 : s1.heap = h0 := by rw [← hh, Bd.state]; rfl
  have N0 := Fr.nil n0
  obtain ⟨EF, hEF⟩ : ∃ f, f = entryFrame m #[(.ref a1), (.int (0 : Int32)), (.ref a2), (.int (0 : Int32)), (.int (2 : Int32))] 7 := ⟨_, rfl⟩
  have pre0 : Go p e bl s1 (mkF m 0 #[rv a1, iv (0 : Int32), rv a2, iv (0 : Int32), iv (2 : Int32), .unset, .unset] []) s1 EF := fun t k => by rw [hEF]; exact castTop (efKa2 m a1 a2) k
  have pre1 : Go p e bl s1 (mkF m 7 #[rv a1, iv (0 : Int32), rv a2, iv (0 : Int32), iv (2 : Int32), iv (0 : Int32), .unset] [(.int (2 : Int32)), (.int (0 : Int32))]) s1 EF := fun t k => pre0 t (by
   refine XS.iconst X0.here hx rfl (B d11_0) ?_
   refine XS.istore X0.here hx rfl (B d11_1) rfl (l' := #[rv a1, iv (0 : Int32), rv a2, iv (0 : Int32), iv (2 : Int32), iv (0 : Int32), .unset]) rfl ?_
   refine XS.iload X0.here hx rfl (B d11_3) rfl ?_
   exact XS.iload X0.here hx rfl (B d11_5) rfl k)
  have pre2 : Go p e bl s1 (mkF m 10 #[rv a1, iv (0 : Int32), rv a2, iv (0 : Int32), iv (2 : Int32), iv (0 : Int32), .unset] []) s1 EF := fun t k => pre1 t (XS.icmpNo X0.here hx rfl (B d11_7) rfl (tlt (by decide : (0 : Int32) < (2 : Int32))).2.1 k)
  have pre3 : Go p e bl s1 (mkF m 12 #[rv a1, iv (0 : Int32), rv a2, iv (0 : Int32), iv (2 : Int32), iv (0 : Int32), .unset] [(.int (0 : Int32)), (.ref a1)]) s1 EF := fun t k => pre2 t (by
   refine XS.aloadN X0.here hx rfl (B d11_10) rfl rfl ?_
   exact XS.iloadN X0.here hx rfl (B d11_11) rfl k)
  obtain ⟨cl4, Ar4, q4, Sz4, M4, H4, G4⟩ := id V1
  have hin4 : ¬ ((0 : Int32) < 0 ∨ cl4.slots.size ≤ ((0 : Int32)).toNatClampNeg) := inb_of Sz4 ⟨by decide, by decide⟩
  have hat4 : cl4.slots[((0 : Int32)).toNatClampNeg]? = some (.int c0) := Has.at H4 hin4 rfl
  have pre5 : Go p e bl s1 (mkF m 20 #[rv a1, iv (0 : Int32), rv a2, iv (0 : Int32), iv (2 : Int32), iv (0 : Int32), iv c0] [(.int (255 : Int32)), (.int c0)]) s1 EF := fun t k => pre3 t (by
   refine X0.caload hx (j := (0 : Int32)) (v := (.int c0)) (by rw [e0]; exact Ar4.1) (State.isArrayOf_alike hZ.alike Ar4.2.1) Ar4.2.2 hin4 hat4 (g := (mkF m 12 #[rv a1, iv (0 : Int32), rv a2, iv (0 : Int32), iv (2 : Int32), iv (0 : Int32), .unset] [(.int (0 : Int32)), (.ref a1)])) rfl rfl (B d11_12) _ ?_
   refine XS.istore X0.here hx rfl (B d11_13) rfl (l' := #[rv a1, iv (0 : Int32), rv a2, iv (0 : Int32), iv (2 : Int32), iv (0 : Int32), iv c0]) rfl ?_
   refine XS.iload X0.here hx rfl (B d11_15) rfl ?_
   exact XS.sipush X0.here hx rfl (B d11_17) k)
  by_cases hc20 : (255 : Int32) < c0
  · have pre6 : Go p e bl s1 (mkF m 23 #[rv a1, iv (0 : Int32), rv a2, iv (0 : Int32), iv (2 : Int32), iv (0 : Int32), iv c0] []) s1 EF := fun t k => pre5 t (XS.icmpNo X0.here hx rfl (B d11_20) rfl (tlt hc20).2.2.2 k)
    have pre7 : Go p e bl s1 (mkF m 25 #[rv a1, iv (0 : Int32), rv a2, iv (0 : Int32), iv (2 : Int32), iv (0 : Int32), iv c0] [(.int (0 : Int32))]) s1 EF := fun t k => pre6 t (by
     exact XS.iload X0.here hx rfl (B d11_23) rfl k)
    exact fin1 X0 (v := some (.int (0 : Int32))) hrt hlk (wl rfl) (wl rfl) (by rw [e0]; exact Or.inr ⟨_, _, rfl, N0, (Keep.refl h0 [a2]), (by decide), (by decide), rfl, hc20⟩) (fun fs hr => hEF ▸ pre7 _ (retOut X0 hx Bd.returns rfl (Or.inl ⟨rfl, Or.inl rfl, _, rfl⟩) (B d11_25) hr))
  have pre8 : Go p e bl s1 (mkF m 26 #[rv a1, iv (0 : Int32), rv a2, iv (0 : Int32), iv (2 : Int32), iv (0 : Int32), iv c0] []) s1 EF := fun t k => pre5 t (XS.icmpYes X0.here hx rfl (pc0 := 20) (pc' := 26) rfl (B d11_20) rfl (flt hc20).2.2.2 (by decide) (by decide) k)
  have pre9 : Go p e bl s1 (mkF m 31 #[rv a1, iv (0 : Int32), rv a2, iv (0 : Int32), iv (2 : Int32), iv (0 : Int32), iv c0] [(.int (c0.toInt8.toInt32)), (.int (0 : Int32)), (.ref a2)]) s1 EF := fun t k => pre8 t (by
   refine XS.aloadN X0.here hx rfl (B d11_26) rfl rfl ?_
   refine XS.iloadN X0.here hx rfl (B d11_27) rfl ?_
   refine XS.iload X0.here hx rfl (B d11_28) rfl ?_
   exact XS.i2b X0.here hx rfl (B d11_30) rfl k)
  obtain ⟨cl10, Ar10, q10, Sz10, M10, H10, G10⟩ := id V2
  have hin10 : ¬ ((0 : Int32) < 0 ∨ cl10.slots.size ≤ ((0 : Int32)).toNatClampNeg) := inb_of Sz10 ⟨by decide, by decide⟩
  obtain ⟨T10, h10, X10, e10, W10, st10⟩ := stB X0 hx hZ e0 Ar10 (j := (0 : Int32)) hin10 (g := (mkF m 31 #[rv a1, iv (0 : Int32), rv a2, iv (0 : Int32), iv (2 : Int32), iv (0 : Int32), iv c0] [(.int (c0.toInt8.toInt32)), (.int (0 : Int32)), (.ref a2)])) rfl rfl (B d11_31)
  rw [own_i2b2] at W10
  have pre11 : Go p e bl T10 (mkF m 32 #[rv a1, iv (0 : Int32), rv a2, iv (0 : Int32), iv (2 : Int32), iv (0 : Int32), iv c0] []) s1 EF := fun t k => pre9 t (st10 t k)
  have O12 : Old Z n0 h10 := O0.wr W10 g_a2
  have Z12 : n0 ≤ h10.size := Nat.le_trans Z0 (Keep.of_wr W10).1
  have K12 : Keep h0 h10 [a2] := (Keep.refl h0 [a2]).wr W10 (Or.inl (List.mem_of_getElem? (i := 0) rfl))
  have V10 : Arv Z h10 a2 k2 .byte (2 : Int32) [(.int (c0.toInt8.toInt32)), (.int (0 : Int32))] (.int (0 : Int32)) := Arv.set Ar10 q10 Sz10 M10 H10 G10 (fits_nar_byte _) W10 0 rfl (Nat.le_of_ble_eq_true rfl)
  have N10 := Fr.snoc X10 N0 g_a2
  have pre13 : Go p e bl T10 (mkF m 7 #[rv a1, iv (1 : Int32), rv a2, iv (1 : Int32), iv (2 : Int32), iv (1 : Int32), iv c0] [(.int (2 : Int32)), (.int (1 : Int32))]) s1 EF := fun t k => pre11 t (by
   refine XS.iinc X10.here hx rfl (B d11_32) rfl (l' := #[rv a1, iv (1 : Int32), rv a2, iv (0 : Int32), iv (2 : Int32), iv (0 : Int32), iv c0]) rfl ?_
   refine XS.iinc X10.here hx rfl (B d11_35) rfl (l' := #[rv a1, iv (1 : Int32), rv a2, iv (1 : Int32), iv (2 : Int32), iv (0 : Int32), iv c0]) rfl ?_
   refine XS.iinc X10.here hx rfl (B d11_38) rfl (l' := #[rv a1, iv (1 : Int32), rv a2, iv (1 : Int32), iv (2 : Int32), iv (1 : Int32), iv c0]) rfl ?_
   refine XS.goto X10.here hx rfl (pc0 := 41) (pc' := 3) rfl (B d11_41) (by decide) (by decide) ?_
   refine XS.iload X10.here hx rfl (B d11_3) rfl ?_
   exact XS.iload X10.here hx rfl (B d11_5) rfl k)
  have pre14 : Go p e bl T10 (mkF m 10 #[rv a1, iv (1 : Int32), rv a2, iv (1 : Int32), iv (2 : Int32), iv (1 : Int32), iv c0] []) s1 EF := fun t k => pre13 t (XS.icmpNo X10.here hx rfl (B d11_7) rfl (tlt (by decide : (1 : Int32) < (2 : Int32))).2.1 k)
  have pre15 : Go p e bl T10 (mkF m 12 #[rv a1, iv (1 : Int32), rv a2, iv (1 : Int32), iv (2 : Int32), iv (1 : Int32), iv c0] [(.int (1 : Int32)), (.ref a1)]) s1 EF := fun t k => pre14 t (by
   refine XS.aloadN X10.here hx rfl (B d11_10) rfl rfl ?_
   exact XS.iloadN X10.here hx rfl (B d11_11) rfl k)
  obtain ⟨cl16, Ar16, q16, Sz16, M16, H16, G16⟩ := id (V1.other W10 ne12)
  have hin16 : ¬ ((1 : Int32) < 0 ∨ cl16.slots.size ≤ ((1 : Int32)).toNatClampNeg) := inb_of Sz16 ⟨by decide, by decide⟩
  have hat16 : cl16.slots[((1 : Int32)).toNatClampNeg]? = some (.int c1) := Has.at H16 hin16 rfl
  have pre17 : Go p e bl T10 (mkF m 20 #[rv a1, iv (1 : Int32), rv a2, iv (1 : Int32), iv (2 : Int32), iv (1 : Int32), iv c1] [(.int (255 : Int32)), (.int c1)]) s1 EF := fun t k => pre15 t (by
   refine X10.caload hx (j := (1 : Int32)) (v := (.int c1)) (by rw [e10]; exact Ar16.1) (State.isArrayOf_alike hZ.alike Ar16.2.1) Ar16.2.2 hin16 hat16 (g := (mkF m 12 #[rv a1, iv (1 : Int32), rv a2, iv (1 : Int32), iv (2 : Int32), iv (1 : Int32), iv c0] [(.int (1 : Int32)), (.ref a1)])) rfl rfl (B d11_12) _ ?_
   refine XS.istore X10.here hx rfl (B d11_13) rfl (l' := #[rv a1, iv (1 : Int32), rv a2, iv (1 : Int32), iv (2 : Int32), iv (1 : Int32), iv c1]) rfl ?_
   refine XS.iload X10.here hx rfl (B d11_15) rfl ?_
   exact XS.sipush X10.here hx rfl (B d11_17) k)
  by_cases hc20' : (255 : Int32) < c1
  · have pre18 : Go p e bl T10 (mkF m 23 #[rv a1, iv (1 : Int32), rv a2, iv (1 : Int32), iv (2 : Int32), iv (1 : Int32), iv c1] []) s1 EF := fun t k => pre17 t (XS.icmpNo X10.here hx rfl (B d11_20) rfl (tlt hc20').2.2.2 k)
    have pre19 : Go p e bl T10 (mkF m 25 #[rv a1, iv (1 : Int32), rv a2, iv (1 : Int32), iv (2 : Int32), iv (1 : Int32), iv c1] [(.int (1 : Int32))]) s1 EF := fun t k => pre18 t (by
     exact XS.iload X10.here hx rfl (B d11_23) rfl k)
    exact fin1 X10 (v := some (.int (1 : Int32))) hrt hlk (wl rfl) (wl rfl) (by rw [e10]; exact Or.inr ⟨_, _, rfl, N10, K12, (by decide), (by decide), rfl, hc20'⟩) (fun fs hr => hEF ▸ pre19 _ (retOut X10 hx Bd.returns rfl (Or.inl ⟨rfl, Or.inl rfl, _, rfl⟩) (B d11_25) hr))
  have pre20 : Go p e bl T10 (mkF m 26 #[rv a1, iv (1 : Int32), rv a2, iv (1 : Int32), iv (2 : Int32), iv (1 : Int32), iv c1] []) s1 EF := fun t k => pre17 t (XS.icmpYes X10.here hx rfl (pc0 := 20) (pc' := 26) rfl (B d11_20) rfl (flt hc20').2.2.2 (by decide) (by decide) k)
  have pre21 : Go p e bl T10 (mkF m 31 #[rv a1, iv (1 : Int32), rv a2, iv (1 : Int32), iv (2 : Int32), iv (1 : Int32), iv c1] [(.int (c1.toInt8.toInt32)), (.int (1 : Int32)), (.ref a2)]) s1 EF := fun t k => pre20 t (by
   refine XS.aloadN X10.here hx rfl (B d11_26) rfl rfl ?_
   refine XS.iloadN X10.here hx rfl (B d11_27) rfl ?_
   refine XS.iload X10.here hx rfl (B d11_28) rfl ?_
   exact XS.i2b X10.here hx rfl (B d11_30) rfl k)
  obtain ⟨cl22, Ar22, q22, Sz22, M22, H22, G22⟩ := id V10
  have hin22 : ¬ ((1 : Int32) < 0 ∨ cl22.slots.size ≤ ((1 : Int32)).toNatClampNeg) := inb_of Sz22 ⟨by decide, by decide⟩
  obtain ⟨T22, h22, X22, e22, W22, st22⟩ := stB X10 hx hZ e10 Ar22 (j := (1 : Int32)) hin22 (g := (mkF m 31 #[rv a1, iv (1 : Int32), rv a2, iv (1 : Int32), iv (2 : Int32), iv (1 : Int32), iv c1] [(.int (c1.toInt8.toInt32)), (.int (1 : Int32)), (.ref a2)])) rfl rfl (B d11_31)
  rw [own_i2b2] at W22
  have pre23 : Go p e bl T22 (mkF m 32 #[rv a1, iv (1 : Int32), rv a2, iv (1 : Int32), iv (2 : Int32), iv (1 : Int32), iv c1] []) s1 EF := fun t k => pre21 t (st22 t k)
  have O24 : Old Z n0 h22 := O12.wr W22 g_a2
  have Z24 : n0 ≤ h22.size := Nat.le_trans Z12 (Keep.of_wr W22).1
  have K24 : Keep h0 h22 [a2] := K12.wr W22 (Or.inl (List.mem_of_getElem? (i := 0) rfl))
  have V22 : Arv Z h22 a2 k2 .byte (2 : Int32) [(.int (c0.toInt8.toInt32)), (.int (c1.toInt8.toInt32))] (.int (0 : Int32)) := Arv.set Ar22 q22 Sz22 M22 H22 G22 (fits_nar_byte _) W22 1 rfl (Nat.le_of_ble_eq_true rfl)
  have N22 := Fr.snoc X22 N10 g_a2
  have pre25 : Go p e bl T22 (mkF m 7 #[rv a1, iv (2 : Int32), rv a2, iv (2 : Int32), iv (2 : Int32), iv (2 : Int32), iv c1] [(.int (2 : Int32)), (.int (2 : Int32))]) s1 EF := fun t k => pre23 t (by
   refine XS.iinc X22.here hx rfl (B d11_32) rfl (l' := #[rv a1, iv (2 : Int32), rv a2, iv (1 : Int32), iv (2 : Int32), iv (1 : Int32), iv c1]) rfl ?_
   refine XS.iinc X22.here hx rfl (B d11_35) rfl (l' := #[rv a1, iv (2 : Int32), rv a2, iv (2 : Int32), iv (2 : Int32), iv (1 : Int32), iv c1]) rfl ?_
   refine XS.iinc X22.here hx rfl (B d11_38) rfl (l' := #[rv a1, iv (2 : Int32), rv a2, iv (2 : Int32), iv (2 : Int32), iv (2 : Int32), iv c1]) rfl ?_
   refine XS.goto X22.here hx rfl (pc0 := 41) (pc' := 3) rfl (B d11_41) (by decide) (by decide) ?_
   refine XS.iload X22.here hx rfl (B d11_3) rfl ?_
   exact XS.iload X22.here hx rfl (B d11_5) rfl k)
  have pre26 : Go p e bl T22 (mkF m 44 #[rv a1, iv (2 : Int32), rv a2, iv (2 : Int32), iv (2 : Int32), iv (2 : Int32), iv c1] []) s1 EF := fun t k => pre25 t (XS.icmpYes X22.here hx rfl (pc0 := 7) (pc' := 44) rfl (B d11_7) rfl (flt (by decide : ¬ ((2 : Int32) < (2 : Int32)))).2.1 (by decide) (by decide) k)
  have pre27 : Go p e bl T22 (mkF m 46 #[rv a1, iv (2 : Int32), rv a2, iv (2 : Int32), iv (2 : Int32), iv (2 : Int32), iv c1] [(.int (2 : Int32))]) s1 EF := fun t k => pre26 t (by
   exact XS.iload X22.here hx rfl (B d11_44) rfl k)
  exact fin1 X22 (v := some (.int (2 : Int32))) hrt hlk (wl rfl) (wl rfl) (by rw [e22]; exact Or.inl ⟨rfl, N22, K24, (List.forall_mem_cons.mpr ⟨hc20, (List.forall_mem_cons.mpr ⟨hc20', (fun _ q => nomatch q)⟩)⟩), V22⟩) (fun fs hr => hEF ▸ pre27 _ (retOut X22 hx Bd.returns rfl (Or.inl ⟨rfl, Or.inl rfl, _, rfl⟩) (B d11_46) hr))
abbrev rKKn2 : Room := { frames := 0, cells := 0, slots := 0, locals := 0 }
theorem efKn2 (m : MethodId)  : entryFrame m #[(.int (2 : Int32))] 1 = mkF m 0 #[iv (2 : Int32)] [] := by first | (simp [entryFrame, mkF, argsToLocals, Value.category]; done) | rfl
def QKn2 (Z : State) (cz : Int32) (fv : Value) (h0 : Heap) (n0 : Nat) (v : Option Value) (h : Heap) (L : List Loc) : Prop := v = some (.int (4 : Int32)) ∧ Fr n0 L ∧ h = h0
set_option maxRecDepth 65536 in
set_option maxHeartbeats 40000000 in
theorem rmKn2 (l : Launch) (Z : State) (a0 : Array Value) (hw : HW a0 Z) (ws : List Jvm.Cond) (cz : Int32) (fv : Value) (h0 : Heap) (n0 : Nat) (Z0 : n0 ≤ h0.size) (O0 : Old Z n0 h0) (J0 : Jd Z cz fv) :
    MF l Z mN12 jdk_52_method_3_code 1 (some .int) ws rKKn2 #[(.int (2 : Int32))] h0 (QKn2 Z cz fv h0 n0) := by
  refine MetFree.of_bodySF (plainFor_of_name pn3) hisR ?_
  intro p e s m args bl meth c s1 Bd hml0 hP hK
  obtain ⟨rfl, hZ, hh⟩ := hP
  have hx := Bd.exec
  have hby := Bd.bytes
  have B := @hb c _ hby
  have hown : s.vm.findClass "java/lang/StringUTF16" = some m.cls := findClass_of_methodNamed Bd.named
  have hlk : meth.locks = false := BodyLoose.notSynchronized Bd
  have hrt : ∀ {v : Option Value}, meth.sig.returnType = none → v = none := fun h => by rw [Bd.returns] at h; cases h
  have X0 : Stand p l e rKKn2 s m #[(.int (2 : Int32))] bl meth c s1 [] 0 0 := Stand.of_body Bd
  have e0 : s1.heap = h0 := by rw [← hh, Bd.state]; rfl
  have N0 := Fr.nil n0
  obtain ⟨EF, hEF⟩ : ∃ f, f = entryFrame m #[(.int (2 : Int32))] 1 := ⟨_, rfl⟩
  have pre0 : Go p e bl s1 (mkF m 0 #[iv (2 : Int32)] []) s1 EF := fun t k => by rw [hEF]; exact castTop (efKn2 m ) k
  have pre1 : Go p e bl s1 (mkF m 1 #[iv (2 : Int32)] [(.int (2 : Int32))]) s1 EF := fun t k => pre0 t (by
   exact XS.iloadN X0.here hx rfl (B d12_0) rfl k)
  have pre2 : Go p e bl s1 (mkF m 12 #[iv (2 : Int32)] []) s1 EF := fun t k => pre1 t (XS.ifYes X0.here hx rfl (pc0 := 1) (pc' := 12) rfl (B d12_1) rfl ((if0 _ _).trans (flt (by decide : ¬ ((2 : Int32) < (0 : Int32)))).2.1) (by decide) (by decide) k)
  have pre3 : Go p e bl s1 (mkF m 15 #[iv (2 : Int32)] [(.int (1073741823 : Int32)), (.int (2 : Int32))]) s1 EF := fun t k => pre2 t (by
   refine XS.iloadN X0.here hx rfl (B d12_12) rfl ?_
   exact X0.ldcInt hx hown (mvT hZ (hw _ (mW 92 rfl))) (g := (mkF m 13 #[iv (2 : Int32)] [(.int (2 : Int32))])) rfl (B d12_13) _ k)
  have pre4 : Go p e bl s1 (mkF m 55 #[iv (2 : Int32)] []) s1 EF := fun t k => pre3 t (XS.icmpYes X0.here hx rfl (pc0 := 15) (pc' := 55) rfl (B d12_15) rfl (tlt (by decide : (2 : Int32) < (1073741823 : Int32))).1 (by decide) (by decide) k)
  have pre5 : Go p e bl s1 (mkF m 58 #[iv (2 : Int32)] [(.int (4 : Int32))]) s1 EF := fun t k => pre4 t (by
   refine XS.iloadN X0.here hx rfl (B d12_55) rfl ?_
   refine XS.iconst X0.here hx rfl (B d12_56) ?_
   exact XS.ishl X0.here hx rfl (B d12_57) rfl k)
  exact fin1 X0 (v := some (.int (4 : Int32))) hrt hlk (wl rfl) (wl rfl) (by rw [e0]; exact ⟨rfl, N0, rfl⟩) (fun fs hr => hEF ▸ pre5 _ (retOut X0 hx Bd.returns rfl (Or.inl ⟨rfl, Or.inl rfl, _, rfl⟩) (B d12_58) hr))
abbrev rKKf2 : Room := { frames := 1, cells := 1, slots := 4, locals := 12 }
theorem efKf2 (m : MethodId)  : entryFrame m #[(.int (2 : Int32))] 1 = mkF m 0 #[iv (2 : Int32)] [] := by first | (simp [entryFrame, mkF, argsToLocals, Value.category]; done) | rfl
def QKf2 (Z : State) (cz : Int32) (fv : Value) (h0 : Heap) (n0 : Nat) (v : Option Value) (h : Heap) (L : List Loc) : Prop := ∃ b k, v = some (.ref b) ∧ Fr n0 L ∧ Keep h0 h [] ∧ h0.size ≤ b ∧ Arv Z h b k .byte (4 : Int32) [(.int (0 : Int32)), (.int (0 : Int32)), (.int (0 : Int32)), (.int (0 : Int32))] (.int (0 : Int32))
set_option maxRecDepth 65536 in
set_option maxHeartbeats 40000000 in
theorem rmKf2 (l : Launch) (Z : State) (a0 : Array Value) (hw : HW a0 Z) (ws : List Jvm.Cond) (cz : Int32) (fv : Value) (h0 : Heap) (n0 : Nat) (Z0 : n0 ≤ h0.size) (O0 : Old Z n0 h0) (J0 : Jd Z cz fv) :
    MF l Z mN13 jdk_52_method_2_code 1 (some (.array .byte)) ws rKKf2 #[(.int (2 : Int32))] h0 (QKf2 Z cz fv h0 n0) := by
  refine MetFree.of_bodySF (plainFor_of_name pn3) hisR ?_
  intro p e s m args bl meth c s1 Bd hml0 hP hK
  obtain ⟨rfl, hZ, hh⟩ := hP
  have hx := Bd.exec
  have hby := Bd.bytes
  have B := @hb c _ hby
  have hM := fun {n : Nat} (h : n = 1) => h.trans hml0.symm
  have hown : s.vm.findClass "java/lang/StringUTF16" = some m.cls := findClass_of_methodNamed Bd.named
  have hlk : meth.locks = false := BodyLoose.notSynchronized Bd
  have hrt : ∀ {v : Option Value}, meth.sig.returnType = none → v = none := fun h => by rw [Bd.returns] at h; cases h
  have X0 : Stand p l e rKKf2 s m #[(.int (2 : Int32))] bl meth c s1 [] 0 0 := Stand.of_body Bd
  have e0 : s1.heap = h0 := by rw [← hh, Bd.state]; rfl
  have N0 := Fr.nil n0
  obtain ⟨EF, hEF⟩ : ∃ f, f = entryFrame m #[(.int (2 : Int32))] 1 := ⟨_, rfl⟩
  have pre0 : Go p e bl s1 (mkF m 0 #[iv (2 : Int32)] []) s1 EF := fun t k => by rw [hEF]; exact castTop (efKf2 m ) k
  have pre1 : Go p e bl s1 (mkF m 1 #[iv (2 : Int32)] [(.int (2 : Int32))]) s1 EF := fun t k => pre0 t (by
   exact XS.iloadN X0.here hx rfl (B d13_0) rfl k)
  obtain ⟨_, _, ⟨T2, L2, k2, n2⟩, -, X2, ⟨Lc2, hQ2, l2, y2, z2⟩, st2⟩ := Jvm.LawKit.callS X0 hx (y := mN12) hown (mvT hZ (hw _ (mW 89 rfl))) (mvT hZ (hw _ (mW 90 rfl))) (mvT hZ (hw _ (mW 45 rfl))) (mvT hZ (hw _ (mW 91 rfl))) (by decide) (backOf (W := 0) (rmKn2 l Z a0 hw []  cz fv  h0 n0 Z0 O0 J0 ) hZ (hw _ (mW 91 rfl)) (hw _ (mW 45 rfl)) (by decide) (by decide)) (g := (mkF m 1 #[iv (2 : Int32)] [(.int (2 : Int32))])) rfl (hM rfl) (argsL := [(.int (2 : Int32))]) (rest := []) (lenOf pd7 rfl) rfl (Nat.le_of_eq rfl) (B d13_1) (fun _ _ => ⟨rfl, e0, wl rfl, wl rfl⟩)
  dsimp only [Pt.U, Pt.locs, Pt.cells, Pt.slots] at X2 l2 y2 z2 st2 hQ2
  subst l2 y2 z2
  obtain ⟨rfl, N2q, hq2⟩ := hQ2
  have N2 := Fr.app N0 N2q
  have pre3 : Go p e bl T2 (mkF m 4 #[iv (2 : Int32)] [(.int (4 : Int32))]) s1 EF := fun t k => pre1 t (st2 t k)
  have e2 : T2.heap = h0 := hq2
  obtain ⟨T4, h4, k4, X4, e4, Et4, A4, st4⟩ := newP X2 hx hZ (hw _ (mW 21 rfl)) e2 (g := (mkF m 4 #[iv (2 : Int32)] [(.int (4 : Int32))])) rfl (B d13_4) rfl (by decide) (cap := 4) (by decide) (by decide) (by decide) (by decide)
  obtain ⟨b4, g4⟩ : ∃ z, z = h0.size := ⟨_, rfl⟩
  rw [← g4] at A4 st4
  have g_b4 : n0 ≤ b4 := Nat.le_trans Z0 (Nat.le_of_eq g4.symm)
  have sz_b4 : h0.size ≤ b4 := Nat.le_trans (Keep.refl h0 []).1 (Nat.le_of_eq g4.symm)
  have pre5 : Go p e bl T4 (mkF m 6 #[iv (2 : Int32)] [(.ref b4)]) s1 EF := fun t k => pre3 t (st4 t k)
  have O6 : Old Z n0 h4 := O0.ext Et4
  have Z6 : n0 ≤ h4.size := Nat.le_trans Z0 Et4.1
  have K6 : Keep h0 h4 [] := (Keep.refl h0 []).ext Et4
  have V4 : Arv Z h4 b4 k4 .byte (4 : Int32) [(.int (0 : Int32)), (.int (0 : Int32)), (.int (0 : Int32)), (.int (0 : Int32))] (.int (0 : Int32)) := (Arv.new A4 (by decide)).pad (pad_rep [] (.int (0 : Int32)) 4)
  exact fin1 X4 (v := some (.ref b4)) hrt hlk (wl rfl) (wl rfl) (by rw [e4]; exact ⟨_, _, rfl, N2, K6, sz_b4, V4⟩) (fun fs hr => hEF ▸ pre5 _ (retOut X4 hx Bd.returns rfl (Or.inr (Or.inr (Or.inr (Or.inr ⟨rfl, rfl, rfl⟩)))) (B d13_6) hr))
abbrev rKKp1 : Room := { frames := 0, cells := 0, slots := 0, locals := 0 }
theorem efKp1 (m : MethodId) (a1 : Addr) (p2 : Int32) : entryFrame m #[(.ref a1), (.int (1 : Int32)), (.int p2)] 3 = mkF m 0 #[rv a1, iv (1 : Int32), iv p2] [] := by first | (simp [entryFrame, mkF, argsToLocals, Value.category]; done) | rfl
def QKp1 (Z : State) (a1 : Addr) (p2 : Int32) (cz : Int32) (fv : Value) (k : ClassId) (z : Int32) (vs : List Value) (h0 : Heap) (n0 : Nat) (v : Option Value) (h : Heap) (L : List Loc) : Prop := v = none ∧ Fr n0 L ∧ Keep h0 h [a1] ∧ Arv Z h a1 k .byte z ((vs.set 2 (.int (lo8 p2))).set 3 (.int (hi8 p2))) (.int 0)
set_option maxRecDepth 65536 in
set_option maxHeartbeats 40000000 in
theorem rmKp1 (l : Launch) (Z : State) (a0 : Array Value) (hw : HW a0 Z) (ws : List Jvm.Cond) (a1 : Addr) (p2 : Int32) (cz : Int32) (fv : Value) (k : ClassId) (z : Int32) (vs : List Value) (h0 : Heap) (n0 : Nat) (Z0 : n0 ≤ h0.size) (O0 : Old Z n0 h0) (J0 : Jd Z cz fv) (VV : Arv Z h0 a1 k .byte z vs (.int 0)) (g_a1 : n0 ≤ a1) (hz0 : (2 : Int32) < z) (hz1 : (3 : Int32) < z) (hln : 3 < vs.length) :
    MF l Z mN14 jdk_52_method_4_code 3 none ws rKKp1 #[(.ref a1), (.int (1 : Int32)), (.int p2)] h0 (QKp1 Z a1 p2 cz fv k z vs h0 n0) := by
  refine MetFree.of_bodySF (plainFor_of_name pn3) hisR ?_
  intro p e s m args bl meth c s1 Bd hml0 hP hK
  obtain ⟨rfl, hZ, hh⟩ := hP
  have hx := Bd.exec
  have hby := Bd.bytes
  have B := @hb c _ hby
  have hown : s.vm.findClass "java/lang/StringUTF16" = some m.cls := findClass_of_methodNamed Bd.named
  have hlk : meth.locks = false := BodyLoose.notSynchronized Bd
  have X0 : Stand p l e rKKp1 s m #[(.ref a1), (.int (1 : Int32)), (.int p2)] bl meth c s1 [] 0 0 := Stand.of_body Bd
  have e0 : s1.heap = h0 := by rw [← hh, Bd.state]; rfl
  have N0 := Fr.nil n0
  obtain ⟨EF, hEF⟩ : ∃ f, f = entryFrame m #[(.ref a1), (.int (1 : Int32)), (.int p2)] 3 := ⟨_, rfl⟩
  have pre0 : Go p e bl s1 (mkF m 0 #[rv a1, iv (1 : Int32), iv p2] []) s1 EF := fun t k => by rw [hEF]; exact castTop (efKp1 m a1 p2) k
  obtain ⟨T1, X1, e1, st1⟩ := getS2 X0 hx hZ hown (host := "") (Or.inl (hw _ (mW 96 rfl))) Via.refl e0 (J0.2.2.2.1.ext O0.2) (g := (mkF m 0 #[rv a1, iv (1 : Int32), iv p2] [])) rfl (B d14_0)
  have pre2 : Go p e bl T1 (mkF m 3 #[rv a1, iv (1 : Int32), iv p2] [(.int (1 : Int32))]) s1 EF := fun t k => pre0 t (st1 t k)
  have pre3 : Go p e bl T1 (mkF m 28 #[rv a1, iv (1 : Int32), iv p2] []) s1 EF := fun t k => pre2 t (XS.ifYes X1.here hx rfl (pc0 := 3) (pc' := 28) rfl (B d14_3) rfl ((if0 _ _).trans (feq (by decide : ¬ ((1 : Int32) = (0 : Int32)))).2) (by decide) (by decide) k)
  have pre4 : Go p e bl T1 (mkF m 38 #[rv a1, iv (3 : Int32), iv p2] [(.int p2), (.int (2 : Int32)), (.ref a1)]) s1 EF := fun t k => pre3 t (by
   refine XS.iloadN X1.here hx rfl (B d14_28) rfl ?_
   refine XS.iconst X1.here hx rfl (B d14_29) ?_
   refine XS.ishl X1.here hx rfl (B d14_30) rfl ?_
   refine XS.istoreN X1.here hx rfl (B d14_31) rfl (l' := #[rv a1, iv (2 : Int32), iv p2]) rfl ?_
   refine XS.aloadN X1.here hx rfl (B d14_32) rfl rfl ?_
   refine XS.iloadN X1.here hx rfl (B d14_33) rfl ?_
   refine XS.iinc X1.here hx rfl (B d14_34) rfl (l' := #[rv a1, iv (3 : Int32), iv p2]) rfl ?_
   exact XS.iloadN X1.here hx rfl (B d14_37) rfl k)
  obtain ⟨T5, X5, e5, st5⟩ := getS2 X1 hx hZ hown (host := "") (Or.inl (hw _ (mW 97 rfl))) Via.refl e1 (J0.2.2.2.2.1.ext O0.2) (g := (mkF m 38 #[rv a1, iv (3 : Int32), iv p2] [(.int p2), (.int (2 : Int32)), (.ref a1)])) rfl (B d14_38)
  have pre6 : Go p e bl T5 (mkF m 41 #[rv a1, iv (3 : Int32), iv p2] [(.int (0 : Int32)), (.int p2), (.int (2 : Int32)), (.ref a1)]) s1 EF := fun t k => pre4 t (st5 t k)
  have pre7 : Go p e bl T5 (mkF m 43 #[rv a1, iv (3 : Int32), iv p2] [(.int ((p2 >>> ((0 : Int32) &&& 31)).toInt8.toInt32)), (.int (2 : Int32)), (.ref a1)]) s1 EF := fun t k => pre6 t (by
   refine XS.ishr X5.here hx rfl (B d14_41) rfl ?_
   exact XS.i2b X5.here hx rfl (B d14_42) rfl k)
  obtain ⟨cl8, Ar8, q8, Sz8, M8, H8, G8⟩ := id VV
  have hin8 : ¬ ((2 : Int32) < 0 ∨ cl8.slots.size ≤ ((2 : Int32)).toNatClampNeg) := inb_of Sz8 ⟨by decide, hz0⟩
  obtain ⟨T8, h8, X8, e8, W8, st8⟩ := stB X5 hx hZ e5 Ar8 (j := (2 : Int32)) hin8 (g := (mkF m 43 #[rv a1, iv (3 : Int32), iv p2] [(.int ((p2 >>> ((0 : Int32) &&& 31)).toInt8.toInt32)), (.int (2 : Int32)), (.ref a1)])) rfl rfl (B d14_43)
  rw [own_i2b2] at W8
  have pre9 : Go p e bl T8 (mkF m 44 #[rv a1, iv (3 : Int32), iv p2] []) s1 EF := fun t k => pre7 t (st8 t k)
  have O10 : Old Z n0 h8 := O0.wr W8 g_a1
  have Z10 : n0 ≤ h8.size := Nat.le_trans Z0 (Keep.of_wr W8).1
  have K10 : Keep h0 h8 [a1] := (Keep.refl h0 [a1]).wr W8 (Or.inl (List.mem_of_getElem? (i := 0) rfl))
  have V8 : Arv Z h8 a1 k .byte z (vs.set 2 (.int ((p2 >>> ((0 : Int32) &&& 31)).toInt8.toInt32))) (.int (0 : Int32)) := Arv.set Ar8 q8 Sz8 M8 H8 G8 (fits_nar_byte _) W8 2 rfl (by first | (simp only [List.length_set]; omega) | omega)
  have N8 := Fr.snoc X8 N0 g_a1
  have pre11 : Go p e bl T8 (mkF m 47 #[rv a1, iv (3 : Int32), iv p2] [(.int p2), (.int (3 : Int32)), (.ref a1)]) s1 EF := fun t k => pre9 t (by
   refine XS.aloadN X8.here hx rfl (B d14_44) rfl rfl ?_
   refine XS.iloadN X8.here hx rfl (B d14_45) rfl ?_
   exact XS.iloadN X8.here hx rfl (B d14_46) rfl k)
  obtain ⟨T12, X12, e12, st12⟩ := getS2 X8 hx hZ hown (host := "") (Or.inl (hw _ (mW 98 rfl))) Via.refl e8 (J0.2.2.2.2.2.1.ext O10.2) (g := (mkF m 47 #[rv a1, iv (3 : Int32), iv p2] [(.int p2), (.int (3 : Int32)), (.ref a1)])) rfl (B d14_47)
  have pre13 : Go p e bl T12 (mkF m 50 #[rv a1, iv (3 : Int32), iv p2] [(.int (8 : Int32)), (.int p2), (.int (3 : Int32)), (.ref a1)]) s1 EF := fun t k => pre11 t (st12 t k)
  have pre14 : Go p e bl T12 (mkF m 52 #[rv a1, iv (3 : Int32), iv p2] [(.int ((p2 >>> ((8 : Int32) &&& 31)).toInt8.toInt32)), (.int (3 : Int32)), (.ref a1)]) s1 EF := fun t k => pre13 t (by
   refine XS.ishr X12.here hx rfl (B d14_50) rfl ?_
   exact XS.i2b X12.here hx rfl (B d14_51) rfl k)
  obtain ⟨cl15, Ar15, q15, Sz15, M15, H15, G15⟩ := id V8
  have hin15 : ¬ ((3 : Int32) < 0 ∨ cl15.slots.size ≤ ((3 : Int32)).toNatClampNeg) := inb_of Sz15 ⟨by decide, hz1⟩
  obtain ⟨T15, h15, X15, e15, W15, st15⟩ := stB X12 hx hZ e12 Ar15 (j := (3 : Int32)) hin15 (g := (mkF m 52 #[rv a1, iv (3 : Int32), iv p2] [(.int ((p2 >>> ((8 : Int32) &&& 31)).toInt8.toInt32)), (.int (3 : Int32)), (.ref a1)])) rfl rfl (B d14_52)
  rw [own_i2b2] at W15
  have pre16 : Go p e bl T15 (mkF m 53 #[rv a1, iv (3 : Int32), iv p2] []) s1 EF := fun t k => pre14 t (st15 t k)
  have O17 : Old Z n0 h15 := O10.wr W15 g_a1
  have Z17 : n0 ≤ h15.size := Nat.le_trans Z10 (Keep.of_wr W15).1
  have K17 : Keep h0 h15 [a1] := K10.wr W15 (Or.inl (List.mem_of_getElem? (i := 0) rfl))
  have V15 : Arv Z h15 a1 k .byte z ((vs.set 2 (.int ((p2 >>> ((0 : Int32) &&& 31)).toInt8.toInt32))).set 3 (.int ((p2 >>> ((8 : Int32) &&& 31)).toInt8.toInt32))) (.int (0 : Int32)) := Arv.set Ar15 q15 Sz15 M15 H15 G15 (fits_nar_byte _) W15 3 rfl (by first | (simp only [List.length_set]; omega) | omega)
  have N15 := Fr.snoc X15 N8 g_a1
  exact fin1 X15 (v := none) (fun _ => rfl) hlk (wl rfl) (wl rfl) (by rw [e15]; exact ⟨rfl, N15, K17, V15⟩) (fun fs hr => hEF ▸ pre16 _ (X15.returnOut hx Bd.returns (B d14_53) hr))
abbrev rKKt2 : Room := { frames := 2, cells := 1, slots := 4, locals := 24 }
theorem efKt2 (m : MethodId) (a1 : Addr) : entryFrame m #[(.ref a1), (.int (0 : Int32)), (.int (2 : Int32))] 5 = mkF m 0 #[rv a1, iv (0 : Int32), iv (2 : Int32), .unset, .unset] [] := by first | (simp [entryFrame, mkF, argsToLocals, Value.category]; done) | rfl
def QKt2 (Z : State) (a1 : Addr) (cz : Int32) (fv : Value) (k1 : ClassId) (c0 : Int32) (c1 : Int32) (h0 : Heap) (n0 : Nat) (v : Option Value) (h : Heap) (L : List Loc) : Prop := ∃ b k, v = some (.ref b) ∧ Fr n0 L ∧ Keep h0 h [] ∧ h0.size ≤ b ∧ Arv Z h b k .byte (4 : Int32) [(.int (lo8 c0)), (.int (hi8 c0)), (.int (lo8 c1)), (.int (hi8 c1))] (.int (0 : Int32))
set_option maxRecDepth 65536 in
set_option maxHeartbeats 40000000 in
theorem rmKt2 (l : Launch) (Z : State) (a0 : Array Value) (hw : HW a0 Z) (ws : List Jvm.Cond) (a1 : Addr) (cz : Int32) (fv : Value) (k1 : ClassId) (c0 : Int32) (c1 : Int32) (h0 : Heap) (n0 : Nat) (Z0 : n0 ≤ h0.size) (O0 : Old Z n0 h0) (J0 : Jd Z cz fv) (V1 : Arv Z h0 a1 k1 .char (2 : Int32) [(.int c0), (.int c1)] (.int (0 : Int32))) :
    MF l Z mN15 jdk_52_method_14_code 5 (some (.array .byte)) ws rKKt2 #[(.ref a1), (.int (0 : Int32)), (.int (2 : Int32))] h0 (QKt2 Z a1 cz fv k1 c0 c1 h0 n0) := by
  refine MetFree.of_bodySF (plainFor_of_name pn3) hisR ?_
  intro p e s m args bl meth c s1 Bd hml0 hP hK
  obtain ⟨rfl, hZ, hh⟩ := hP
  have hx := Bd.exec
  have hby := Bd.bytes
  have B := @hb c _ hby
  have hM := fun {n : Nat} (h : n = 5) => h.trans hml0.symm
  have hown : s.vm.findClass "java/lang/StringUTF16" = some m.cls := findClass_of_methodNamed Bd.named
  have hlk : meth.locks = false := BodyLoose.notSynchronized Bd
  have hrt : ∀ {v : Option Value}, meth.sig.returnType = none → v = none := fun h => by rw [Bd.returns] at h; cases h
  have X0 : Stand p l e rKKt2 s m #[(.ref a1), (.int (0 : Int32)), (.int (2 : Int32))] bl meth c s1 [] 0 0 := Stand.of_body Bd
  have e0 : s1.heap = h0 := by rw [← hh, Bd.state]; rfl
  have N0 := Fr.nil n0
  obtain ⟨EF, hEF⟩ : ∃ f, f = entryFrame m #[(.ref a1), (.int (0 : Int32)), (.int (2 : Int32))] 5 := ⟨_, rfl⟩
  have pre0 : Go p e bl s1 (mkF m 0 #[rv a1, iv (0 : Int32), iv (2 : Int32), .unset, .unset] []) s1 EF := fun t k => by rw [hEF]; exact castTop (efKt2 m a1) k
  have pre1 : Go p e bl s1 (mkF m 1 #[rv a1, iv (0 : Int32), iv (2 : Int32), .unset, .unset] [(.int (2 : Int32))]) s1 EF := fun t k => pre0 t (by
   exact XS.iloadN X0.here hx rfl (B d15_0) rfl k)
  obtain ⟨_, _, ⟨T2, L2, k2, n2⟩, -, X2, ⟨Lc2, hQ2, l2, y2, z2⟩, st2⟩ := Jvm.LawKit.callS X0 hx (y := mN13) hown (mvT hZ (hw _ (mW 86 rfl))) (mvT hZ (hw _ (mW 87 rfl))) (mvT hZ (hw _ (mW 45 rfl))) (mvT hZ (hw _ (mW 88 rfl))) (by decide) (backOf (W := 0) (rmKf2 l Z a0 hw []  cz fv  h0 n0 Z0 O0 J0 ) hZ (hw _ (mW 88 rfl)) (hw _ (mW 45 rfl)) (by decide) (by decide)) (g := (mkF m 1 #[rv a1, iv (0 : Int32), iv (2 : Int32), .unset, .unset] [(.int (2 : Int32))])) rfl (hM rfl) (argsL := [(.int (2 : Int32))]) (rest := []) (lenOf pd8 rfl) rfl (Nat.le_of_eq rfl) (B d15_1) (fun _ _ => ⟨rfl, e0, wl rfl, wl rfl⟩)
  dsimp only [Pt.U, Pt.locs, Pt.cells, Pt.slots] at X2 l2 y2 z2 st2 hQ2
  subst l2 y2 z2
  obtain ⟨bt, kb2, rfl, N2q, K2, hsz2, VB2⟩ := hQ2
  have N2 := Fr.app N0 N2q
  have pre3 : Go p e bl T2 (mkF m 4 #[rv a1, iv (0 : Int32), iv (2 : Int32), .unset, .unset] [(.ref bt)]) s1 EF := fun t k => pre1 t (st2 t k)
  have O4 : Old Z n0 T2.heap := O0.keep K2 all0
  have Z4 : n0 ≤ T2.heap.size := Nat.le_trans Z0 K2.1
  have K4 : Keep h0 T2.heap [] := (Keep.refl h0 []).trans K2 all0
  have g_bt : n0 ≤ bt := Nat.le_trans Z0 hsz2
  have sz_bt : h0.size ≤ bt := Nat.le_trans (Keep.refl h0 []).1 hsz2
  have ne_a1_bt : a1 ≠ bt := Nat.ne_of_lt (Nat.lt_of_lt_of_le V1.lt hsz2)
  have pre5 : Go p e bl T2 (mkF m 11 #[rv a1, iv (0 : Int32), iv (2 : Int32), rv bt, iv (0 : Int32)] [(.int (2 : Int32)), (.int (0 : Int32))]) s1 EF := fun t k => pre3 t (by
   refine XS.astoreN X2.here hx rfl (B d15_4) rfl rfl (l' := #[rv a1, iv (0 : Int32), iv (2 : Int32), rv bt, .unset]) rfl ?_
   refine XS.iconst X2.here hx rfl (B d15_5) ?_
   refine XS.istore X2.here hx rfl (B d15_6) rfl (l' := #[rv a1, iv (0 : Int32), iv (2 : Int32), rv bt, iv (0 : Int32)]) rfl ?_
   refine XS.iload X2.here hx rfl (B d15_8) rfl ?_
   exact XS.iloadN X2.here hx rfl (B d15_10) rfl k)
  have pre6 : Go p e bl T2 (mkF m 14 #[rv a1, iv (0 : Int32), iv (2 : Int32), rv bt, iv (0 : Int32)] []) s1 EF := fun t k => pre5 t (XS.icmpNo X2.here hx rfl (B d15_11) rfl (tlt (by decide : (0 : Int32) < (2 : Int32))).2.1 k)
  have pre7 : Go p e bl T2 (mkF m 19 #[rv a1, iv (0 : Int32), iv (2 : Int32), rv bt, iv (0 : Int32)] [(.int (0 : Int32)), (.ref a1), (.int (0 : Int32)), (.ref bt)]) s1 EF := fun t k => pre6 t (by
   refine XS.aloadN X2.here hx rfl (B d15_14) rfl rfl ?_
   refine XS.iload X2.here hx rfl (B d15_15) rfl ?_
   refine XS.aloadN X2.here hx rfl (B d15_17) rfl rfl ?_
   exact XS.iloadN X2.here hx rfl (B d15_18) rfl k)
  obtain ⟨cl8, Ar8, q8, Sz8, M8, H8, G8⟩ := id (V1.keep K2 nin0)
  have hin8 : ¬ ((0 : Int32) < 0 ∨ cl8.slots.size ≤ ((0 : Int32)).toNatClampNeg) := inb_of Sz8 ⟨by decide, by decide⟩
  have hat8 : cl8.slots[((0 : Int32)).toNatClampNeg]? = some (.int c0) := Has.at H8 hin8 rfl
  have pre9 : Go p e bl T2 (mkF m 20 #[rv a1, iv (0 : Int32), iv (2 : Int32), rv bt, iv (0 : Int32)] [(.int c0), (.int (0 : Int32)), (.ref bt)]) s1 EF := fun t k => pre7 t (by
   exact X2.caload hx (j := (0 : Int32)) (v := (.int c0)) Ar8.1 (State.isArrayOf_alike hZ.alike Ar8.2.1) Ar8.2.2 hin8 hat8 (g := (mkF m 19 #[rv a1, iv (0 : Int32), iv (2 : Int32), rv bt, iv (0 : Int32)] [(.int (0 : Int32)), (.ref a1), (.int (0 : Int32)), (.ref bt)])) rfl rfl (B d15_19) _ k)
  obtain ⟨_, _, ⟨T10, L10, k10, n10⟩, -, X10, ⟨Lc10, hQ10, l10, y10, z10⟩, st10⟩ := Jvm.LawKit.callS X2 hx (y := mN14) hown (mvT hZ (hw _ (mW 93 rfl))) (mvT hZ (hw _ (mW 94 rfl))) (mvT hZ (hw _ (mW 45 rfl))) (mvT hZ (hw _ (mW 95 rfl))) (by decide) (backOf (W := 0) (rmKp0 l Z a0 hw [] bt c0 cz fv kb2 (4 : Int32) _ T2.heap n0 Z4 O4 J0 VB2 g_bt (by decide) (by decide) (Nat.le_of_ble_eq_true rfl)) hZ (hw _ (mW 95 rfl)) (hw _ (mW 45 rfl)) (by decide) (by decide)) (g := (mkF m 20 #[rv a1, iv (0 : Int32), iv (2 : Int32), rv bt, iv (0 : Int32)] [(.int c0), (.int (0 : Int32)), (.ref bt)])) rfl (hM rfl) (argsL := [(.ref bt), (.int (0 : Int32)), (.int c0)]) (rest := []) (lenOf pd9 rfl) rfl (Nat.le_of_eq rfl) (B d15_20) (fun _ _ => ⟨rfl, rfl, wl rfl, wl rfl⟩)
  dsimp only [Pt.U, Pt.locs, Pt.cells, Pt.slots] at X10 l10 y10 z10 st10 hQ10
  subst l10 y10 z10
  obtain ⟨rfl, N10q, K10, VQ10⟩ := hQ10
  have N10 := Fr.app N2 N10q
  have pre11 : Go p e bl T10 (mkF m 23 #[rv a1, iv (0 : Int32), iv (2 : Int32), rv bt, iv (0 : Int32)] []) s1 EF := fun t k => pre9 t (st10 t k)
  have O12 : Old Z n0 T10.heap := O4.keep K10 (allS g_bt all0)
  have Z12 : n0 ≤ T10.heap.size := Nat.le_trans Z4 K10.1
  have K12 : Keep h0 T10.heap [] := K4.trans K10 (allS (Or.inr sz_bt) all0)
  have VP10 : Arv Z T10.heap bt kb2 .byte (4 : Int32) [(.int (lo8 c0)), (.int (hi8 c0)), (.int (0 : Int32)), (.int (0 : Int32))] (.int (0 : Int32)) := VQ10
  have pre13 : Go p e bl T10 (mkF m 11 #[rv a1, iv (1 : Int32), iv (2 : Int32), rv bt, iv (1 : Int32)] [(.int (2 : Int32)), (.int (1 : Int32))]) s1 EF := fun t k => pre11 t (by
   refine XS.iinc X10.here hx rfl (B d15_23) rfl (l' := #[rv a1, iv (1 : Int32), iv (2 : Int32), rv bt, iv (0 : Int32)]) rfl ?_
   refine XS.iinc X10.here hx rfl (B d15_26) rfl (l' := #[rv a1, iv (1 : Int32), iv (2 : Int32), rv bt, iv (1 : Int32)]) rfl ?_
   refine XS.goto X10.here hx rfl (pc0 := 29) (pc' := 8) rfl (B d15_29) (by decide) (by decide) ?_
   refine XS.iload X10.here hx rfl (B d15_8) rfl ?_
   exact XS.iloadN X10.here hx rfl (B d15_10) rfl k)
  have pre14 : Go p e bl T10 (mkF m 14 #[rv a1, iv (1 : Int32), iv (2 : Int32), rv bt, iv (1 : Int32)] []) s1 EF := fun t k => pre13 t (XS.icmpNo X10.here hx rfl (B d15_11) rfl (tlt (by decide : (1 : Int32) < (2 : Int32))).2.1 k)
  have pre15 : Go p e bl T10 (mkF m 19 #[rv a1, iv (1 : Int32), iv (2 : Int32), rv bt, iv (1 : Int32)] [(.int (1 : Int32)), (.ref a1), (.int (1 : Int32)), (.ref bt)]) s1 EF := fun t k => pre14 t (by
   refine XS.aloadN X10.here hx rfl (B d15_14) rfl rfl ?_
   refine XS.iload X10.here hx rfl (B d15_15) rfl ?_
   refine XS.aloadN X10.here hx rfl (B d15_17) rfl rfl ?_
   exact XS.iloadN X10.here hx rfl (B d15_18) rfl k)
  obtain ⟨cl16, Ar16, q16, Sz16, M16, H16, G16⟩ := id ((V1.keep K2 nin0).keep K10 (ninS ne_a1_bt nin0))
  have hin16 : ¬ ((1 : Int32) < 0 ∨ cl16.slots.size ≤ ((1 : Int32)).toNatClampNeg) := inb_of Sz16 ⟨by decide, by decide⟩
  have hat16 : cl16.slots[((1 : Int32)).toNatClampNeg]? = some (.int c1) := Has.at H16 hin16 rfl
  have pre17 : Go p e bl T10 (mkF m 20 #[rv a1, iv (1 : Int32), iv (2 : Int32), rv bt, iv (1 : Int32)] [(.int c1), (.int (1 : Int32)), (.ref bt)]) s1 EF := fun t k => pre15 t (by
   exact X10.caload hx (j := (1 : Int32)) (v := (.int c1)) Ar16.1 (State.isArrayOf_alike hZ.alike Ar16.2.1) Ar16.2.2 hin16 hat16 (g := (mkF m 19 #[rv a1, iv (1 : Int32), iv (2 : Int32), rv bt, iv (1 : Int32)] [(.int (1 : Int32)), (.ref a1), (.int (1 : Int32)), (.ref bt)])) rfl rfl (B d15_19) _ k)
  obtain ⟨_, _, ⟨T18, L18, k18, n18⟩, -, X18, ⟨Lc18, hQ18, l18, y18, z18⟩, st18⟩ := Jvm.LawKit.callS X10 hx (y := mN14) hown (mvT hZ (hw _ (mW 93 rfl))) (mvT hZ (hw _ (mW 94 rfl))) (mvT hZ (hw _ (mW 45 rfl))) (mvT hZ (hw _ (mW 95 rfl))) (by decide) (backOf (W := 0) (rmKp1 l Z a0 hw [] bt c1 cz fv kb2 (4 : Int32) _ T10.heap n0 Z12 O12 J0 VP10 g_bt (by decide) (by decide) (Nat.le_of_ble_eq_true rfl)) hZ (hw _ (mW 95 rfl)) (hw _ (mW 45 rfl)) (by decide) (by decide)) (g := (mkF m 20 #[rv a1, iv (1 : Int32), iv (2 : Int32), rv bt, iv (1 : Int32)] [(.int c1), (.int (1 : Int32)), (.ref bt)])) rfl (hM rfl) (argsL := [(.ref bt), (.int (1 : Int32)), (.int c1)]) (rest := []) (lenOf pd9 rfl) rfl (Nat.le_of_eq rfl) (B d15_20) (fun _ _ => ⟨rfl, rfl, wl rfl, wl rfl⟩)
  dsimp only [Pt.U, Pt.locs, Pt.cells, Pt.slots] at X18 l18 y18 z18 st18 hQ18
  subst l18 y18 z18
  obtain ⟨rfl, N18q, K18, VQ18⟩ := hQ18
  have N18 := Fr.app N10 N18q
  have pre19 : Go p e bl T18 (mkF m 23 #[rv a1, iv (1 : Int32), iv (2 : Int32), rv bt, iv (1 : Int32)] []) s1 EF := fun t k => pre17 t (st18 t k)
  have O20 : Old Z n0 T18.heap := O12.keep K18 (allS g_bt all0)
  have Z20 : n0 ≤ T18.heap.size := Nat.le_trans Z12 K18.1
  have K20 : Keep h0 T18.heap [] := K12.trans K18 (allS (Or.inr sz_bt) all0)
  have VP18 : Arv Z T18.heap bt kb2 .byte (4 : Int32) [(.int (lo8 c0)), (.int (hi8 c0)), (.int (lo8 c1)), (.int (hi8 c1))] (.int (0 : Int32)) := VQ18
  have pre21 : Go p e bl T18 (mkF m 11 #[rv a1, iv (2 : Int32), iv (2 : Int32), rv bt, iv (2 : Int32)] [(.int (2 : Int32)), (.int (2 : Int32))]) s1 EF := fun t k => pre19 t (by
   refine XS.iinc X18.here hx rfl (B d15_23) rfl (l' := #[rv a1, iv (2 : Int32), iv (2 : Int32), rv bt, iv (1 : Int32)]) rfl ?_
   refine XS.iinc X18.here hx rfl (B d15_26) rfl (l' := #[rv a1, iv (2 : Int32), iv (2 : Int32), rv bt, iv (2 : Int32)]) rfl ?_
   refine XS.goto X18.here hx rfl (pc0 := 29) (pc' := 8) rfl (B d15_29) (by decide) (by decide) ?_
   refine XS.iload X18.here hx rfl (B d15_8) rfl ?_
   exact XS.iloadN X18.here hx rfl (B d15_10) rfl k)
  have pre22 : Go p e bl T18 (mkF m 32 #[rv a1, iv (2 : Int32), iv (2 : Int32), rv bt, iv (2 : Int32)] []) s1 EF := fun t k => pre21 t (XS.icmpYes X18.here hx rfl (pc0 := 11) (pc' := 32) rfl (B d15_11) rfl (flt (by decide : ¬ ((2 : Int32) < (2 : Int32)))).2.1 (by decide) (by decide) k)
  have pre23 : Go p e bl T18 (mkF m 33 #[rv a1, iv (2 : Int32), iv (2 : Int32), rv bt, iv (2 : Int32)] [(.ref bt)]) s1 EF := fun t k => pre22 t (by
   exact XS.aloadN X18.here hx rfl (B d15_32) rfl rfl k)
  exact fin1 X18 (v := some (.ref bt)) hrt hlk (wl rfl) (wl rfl) (by exact ⟨_, _, rfl, N18, K20, sz_bt, VP18⟩) (fun fs hr => hEF ▸ pre23 _ (retOut X18 hx Bd.returns rfl (Or.inr (Or.inr (Or.inr (Or.inr ⟨rfl, rfl, rfl⟩)))) (B d15_33) hr))
abbrev rKKb2 : Room := { frames := 3, cells := 2, slots := 6, locals := 40 }
theorem efKb2 (m : MethodId) (a1 : Addr) : entryFrame m #[(.ref a1), (.int (0 : Int32)), (.int (2 : Int32))] 6 = mkF m 0 #[rv a1, iv (0 : Int32), iv (2 : Int32), .unset, .unset, .unset] [] := by first | (simp [entryFrame, mkF, argsToLocals, Value.category]; done) | rfl
def QKb2 (Z : State) (a1 : Addr) (cz : Int32) (fv : Value) (k1 : ClassId) (c0 : Int32) (c1 : Int32) (h0 : Heap) (n0 : Nat) (v : Option Value) (h : Heap) (L : List Loc) : Prop := (∃ b k, v = some (.ref b) ∧ Fr n0 L ∧ Keep h0 h [] ∧ h0.size ≤ b ∧ (∀ c ∈ [c0, c1], ¬ (255 : Int32) < c) ∧ Arv Z h b k .byte (2 : Int32) [(.int (c0.toInt8.toInt32)), (.int (c1.toInt8.toInt32))] (.int (0 : Int32))) ∨ (∃ b k, v = some (.ref b) ∧ Fr n0 L ∧ Keep h0 h [] ∧ h0.size ≤ b ∧ Arv Z h b k .byte (4 : Int32) [(.int (lo8 c0)), (.int (hi8 c0)), (.int (lo8 c1)), (.int (hi8 c1))] (.int (0 : Int32)))
set_option maxRecDepth 65536 in
set_option maxHeartbeats 40000000 in
theorem rmKb2 (l : Launch) (Z : State) (a0 : Array Value) (hw : HW a0 Z) (ws : List Jvm.Cond) (a1 : Addr) (cz : Int32) (fv : Value) (k1 : ClassId) (c0 : Int32) (c1 : Int32) (h0 : Heap) (n0 : Nat) (Z0 : n0 ≤ h0.size) (O0 : Old Z n0 h0) (J0 : Jd Z cz fv) (V1 : Arv Z h0 a1 k1 .char (2 : Int32) [(.int c0), (.int c1)] (.int (0 : Int32))) (hrg : ∀ c ∈ [c0, c1], 0 ≤ c.toInt ∧ c.toInt < 65536) :
    MF l Z mN16 jdk_52_method_16_code 6 (some (.array .byte)) ws rKKb2 #[(.ref a1), (.int (0 : Int32)), (.int (2 : Int32))] h0 (QKb2 Z a1 cz fv k1 c0 c1 h0 n0) := by
  refine MetFree.of_bodySF (plainFor_of_name pn3) hisR ?_
  intro p e s m args bl meth c s1 Bd hml0 hP hK
  obtain ⟨rfl, hZ, hh⟩ := hP
  have hx := Bd.exec
  have hby := Bd.bytes
  have B := @hb c _ hby
  have hM := fun {n : Nat} (h : n = 6) => h.trans hml0.symm
  have hown : s.vm.findClass "java/lang/StringUTF16" = some m.cls := findClass_of_methodNamed Bd.named
  have hlk : meth.locks = false := BodyLoose.notSynchronized Bd
  have hrt : ∀ {v : Option Value}, meth.sig.returnType = none → v = none := fun h => by rw [Bd.returns] at h; cases h
  have X0 : Stand p l e rKKb2 s m #[(.ref a1), (.int (0 : Int32)), (.int (2 : Int32))] bl meth c s1 [] 0 0 := Stand.of_body Bd
  have e0 : s1.heap = h0 := by rw [← hh, Bd.state]; rfl
  have N0 := Fr.nil n0
  obtain ⟨EF, hEF⟩ : ∃ f, f = entryFrame m #[(.ref a1), (.int (0 : Int32)), (.int (2 : Int32))] 6 := ⟨_, rfl⟩
  have pre0 : Go p e bl s1 (mkF m 0 #[rv a1, iv (0 : Int32), iv (2 : Int32), .unset, .unset, .unset] []) s1 EF := fun t k => by rw [hEF]; exact castTop (efKb2 m a1) k
  have pre1 : Go p e bl s1 (mkF m 1 #[rv a1, iv (0 : Int32), iv (2 : Int32), .unset, .unset, .unset] [(.int (2 : Int32))]) s1 EF := fun t k => pre0 t (by
   exact XS.iloadN X0.here hx rfl (B d16_0) rfl k)
  obtain ⟨T2, h2, k2, X2, e2, Et2, A2, st2⟩ := newP X0 hx hZ (hw _ (mW 21 rfl)) e0 (g := (mkF m 1 #[rv a1, iv (0 : Int32), iv (2 : Int32), .unset, .unset, .unset] [(.int (2 : Int32))])) rfl (B d16_1) rfl (by decide) (cap := 2) (by decide) (by decide) (by decide) (by decide)
  obtain ⟨b2, g2⟩ : ∃ z, z = h0.size := ⟨_, rfl⟩
  rw [← g2] at A2 st2
  have g_b2 : n0 ≤ b2 := Nat.le_trans Z0 (Nat.le_of_eq g2.symm)
  have sz_b2 : h0.size ≤ b2 := Nat.le_trans (Keep.refl h0 []).1 (Nat.le_of_eq g2.symm)
  have ne_a1_b2 : a1 ≠ b2 := Nat.ne_of_lt (Nat.lt_of_lt_of_le V1.lt (Nat.le_of_eq g2.symm))
  have pre3 : Go p e bl T2 (mkF m 3 #[rv a1, iv (0 : Int32), iv (2 : Int32), .unset, .unset, .unset] [(.ref b2)]) s1 EF := fun t k => pre1 t (st2 t k)
  have O4 : Old Z n0 h2 := O0.ext Et2
  have Z4 : n0 ≤ h2.size := Nat.le_trans Z0 Et2.1
  have K4 : Keep h0 h2 [] := (Keep.refl h0 []).ext Et2
  have V2 : Arv Z h2 b2 k2 .byte (2 : Int32) [(.int (0 : Int32)), (.int (0 : Int32))] (.int (0 : Int32)) := (Arv.new A2 (by decide)).pad (pad_rep [] (.int (0 : Int32)) 2)
  have pre5 : Go p e bl T2 (mkF m 9 #[rv a1, iv (0 : Int32), iv (2 : Int32), rv b2, .unset, .unset] [(.int (2 : Int32)), (.int (0 : Int32)), (.ref b2), (.int (0 : Int32)), (.ref a1)]) s1 EF := fun t k => pre3 t (by
   refine XS.astoreN X2.here hx rfl (B d16_3) rfl rfl (l' := #[rv a1, iv (0 : Int32), iv (2 : Int32), rv b2, .unset, .unset]) rfl ?_
   refine XS.aloadN X2.here hx rfl (B d16_4) rfl rfl ?_
   refine XS.iloadN X2.here hx rfl (B d16_5) rfl ?_
   refine XS.aloadN X2.here hx rfl (B d16_6) rfl rfl ?_
   refine XS.iconst X2.here hx rfl (B d16_7) ?_
   exact XS.iloadN X2.here hx rfl (B d16_8) rfl k)
  obtain ⟨_, _, ⟨T6, L6, k6, n6⟩, -, X6, ⟨Lc6, hQ6, l6, y6, z6⟩, st6⟩ := Jvm.LawKit.callS X2 hx (y := mN11) hown (mvT hZ (hw _ (mW 47 rfl))) (mvT hZ (hw _ (mW 48 rfl))) (mvT hZ (hw _ (mW 45 rfl))) (mvT hZ (hw _ (mW 49 rfl))) (by decide) (backOf (W := 0) (rmKa2 l Z a0 hw [] a1 b2 cz fv k1 k2 c0 c1 h2 n0 Z4 O4 J0 (V1.ext Et2) V2 ne_a1_b2 g_b2) hZ (hw _ (mW 49 rfl)) (hw _ (mW 45 rfl)) (by decide) (by decide)) (g := (mkF m 9 #[rv a1, iv (0 : Int32), iv (2 : Int32), rv b2, .unset, .unset] [(.int (2 : Int32)), (.int (0 : Int32)), (.ref b2), (.int (0 : Int32)), (.ref a1)])) rfl (hM rfl) (argsL := [(.ref a1), (.int (0 : Int32)), (.ref b2), (.int (0 : Int32)), (.int (2 : Int32))]) (rest := []) (lenOf pd10 rfl) rfl (Nat.le_of_eq rfl) (B d16_9) (fun _ _ => ⟨rfl, e2, wl rfl, wl rfl⟩)
  dsimp only [Pt.U, Pt.locs, Pt.cells, Pt.slots] at X6 l6 y6 z6 st6 hQ6
  subst l6 y6 z6
  rcases hQ6 with ⟨rfl, N6q, K6, LE6, VL6⟩ | ⟨iB, cB, rfl, N6q, K6, hi06, hni6, hci6, hgt6⟩
  · have N6 := Fr.app N0 N6q
    have pre7 : Go p e bl T6 (mkF m 12 #[rv a1, iv (0 : Int32), iv (2 : Int32), rv b2, .unset, .unset] [(.int (2 : Int32))]) s1 EF := fun t k => pre5 t (st6 t k)
    have O8 : Old Z n0 T6.heap := O4.keep K6 (allS g_b2 all0)
    have Z8 : n0 ≤ T6.heap.size := Nat.le_trans Z4 K6.1
    have K8 : Keep h0 T6.heap [] := K4.trans K6 (allS (Or.inr sz_b2) all0)
    have pre9 : Go p e bl T6 (mkF m 17 #[rv a1, iv (0 : Int32), iv (2 : Int32), rv b2, iv (2 : Int32), .unset] [(.int (2 : Int32)), (.int (2 : Int32))]) s1 EF := fun t k => pre7 t (by
     refine XS.istore X6.here hx rfl (B d16_12) rfl (l' := #[rv a1, iv (0 : Int32), iv (2 : Int32), rv b2, iv (2 : Int32), .unset]) rfl ?_
     refine XS.iload X6.here hx rfl (B d16_14) rfl ?_
     exact XS.iloadN X6.here hx rfl (B d16_16) rfl k)
    have pre10 : Go p e bl T6 (mkF m 57 #[rv a1, iv (0 : Int32), iv (2 : Int32), rv b2, iv (2 : Int32), .unset] []) s1 EF := fun t k => pre9 t (XS.icmpYes X6.here hx rfl (pc0 := 17) (pc' := 57) rfl (B d16_17) rfl (teq (by decide : (2 : Int32) = (2 : Int32))).1 (by decide) (by decide) k)
    have pre11 : Go p e bl T6 (mkF m 58 #[rv a1, iv (0 : Int32), iv (2 : Int32), rv b2, iv (2 : Int32), .unset] [(.ref b2)]) s1 EF := fun t k => pre10 t (by
     exact XS.aloadN X6.here hx rfl (B d16_57) rfl rfl k)
    exact fin1 X6 (v := some (.ref b2)) hrt hlk (wl rfl) (wl rfl) (by exact Or.inl ⟨_, _, rfl, N6, K8, sz_b2, LE6, VL6⟩) (fun fs hr => hEF ▸ pre11 _ (retOut X6 hx Bd.returns rfl (Or.inr (Or.inr (Or.inr (Or.inr ⟨rfl, rfl, rfl⟩)))) (B d16_58) hr))
  have N6 := Fr.app N0 N6q
  have pre12 : Go p e bl T6 (mkF m 12 #[rv a1, iv (0 : Int32), iv (2 : Int32), rv b2, .unset, .unset] [(.int iB)]) s1 EF := fun t k => pre5 t (st6 t k)
  have O13 : Old Z n0 T6.heap := O4.keep K6 (allS g_b2 all0)
  have Z13 : n0 ≤ T6.heap.size := Nat.le_trans Z4 K6.1
  have K13 : Keep h0 T6.heap [] := K4.trans K6 (allS (Or.inr sz_b2) all0)
  have pre14 : Go p e bl T6 (mkF m 17 #[rv a1, iv (0 : Int32), iv (2 : Int32), rv b2, iv iB, .unset] [(.int (2 : Int32)), (.int iB)]) s1 EF := fun t k => pre12 t (by
   refine XS.istore X6.here hx rfl (B d16_12) rfl (l' := #[rv a1, iv (0 : Int32), iv (2 : Int32), rv b2, iv iB, .unset]) rfl ?_
   refine XS.iload X6.here hx rfl (B d16_14) rfl ?_
   exact XS.iloadN X6.here hx rfl (B d16_16) rfl k)
  have pre15 : Go p e bl T6 (mkF m 20 #[rv a1, iv (0 : Int32), iv (2 : Int32), rv b2, iv iB, .unset] []) s1 EF := fun t k => pre14 t (XS.icmpNo X6.here hx rfl (B d16_17) rfl (feq hni6).1 k)
  have pre16 : Go p e bl T6 (mkF m 23 #[rv a1, iv (0 : Int32), iv (2 : Int32), rv b2, iv iB, .unset] [(.int (2 : Int32)), (.int (0 : Int32)), (.ref a1)]) s1 EF := fun t k => pre15 t (by
   refine XS.aloadN X6.here hx rfl (B d16_20) rfl rfl ?_
   refine XS.iloadN X6.here hx rfl (B d16_21) rfl ?_
   exact XS.iloadN X6.here hx rfl (B d16_22) rfl k)
  obtain ⟨_, _, ⟨T17, L17, k17, n17⟩, -, X17, ⟨Lc17, hQ17, l17, y17, z17⟩, st17⟩ := Jvm.LawKit.callS X6 hx (y := mN15) hown (mvT hZ (hw _ (mW 83 rfl))) (mvT hZ (hw _ (mW 84 rfl))) (mvT hZ (hw _ (mW 45 rfl))) (mvT hZ (hw _ (mW 85 rfl))) (by decide) (backOf (W := 0) (rmKt2 l Z a0 hw [] a1 cz fv k1 c0 c1 T6.heap n0 Z13 O13 J0 ((V1.ext Et2).keep K6 (ninS ne_a1_b2 nin0))) hZ (hw _ (mW 85 rfl)) (hw _ (mW 45 rfl)) (by decide) (by decide)) (g := (mkF m 23 #[rv a1, iv (0 : Int32), iv (2 : Int32), rv b2, iv iB, .unset] [(.int (2 : Int32)), (.int (0 : Int32)), (.ref a1)])) rfl (hM rfl) (argsL := [(.ref a1), (.int (0 : Int32)), (.int (2 : Int32))]) (rest := []) (lenOf pd11 rfl) rfl (Nat.le_of_eq rfl) (B d16_23) (fun _ _ => ⟨rfl, rfl, wl rfl, wl rfl⟩)
  dsimp only [Pt.U, Pt.locs, Pt.cells, Pt.slots] at X17 l17 y17 z17 st17 hQ17
  subst l17 y17 z17
  obtain ⟨bw, kb17, rfl, N17q, K17, hsz17, VB17⟩ := hQ17
  have N17 := Fr.app N6 N17q
  have pre18 : Go p e bl T17 (mkF m 26 #[rv a1, iv (0 : Int32), iv (2 : Int32), rv b2, iv iB, .unset] [(.ref bw)]) s1 EF := fun t k => pre16 t (st17 t k)
  have O19 : Old Z n0 T17.heap := O13.keep K17 all0
  have Z19 : n0 ≤ T17.heap.size := Nat.le_trans Z13 K17.1
  have K19 : Keep h0 T17.heap [] := K13.trans K17 all0
  have g_bw : n0 ≤ bw := Nat.le_trans Z13 hsz17
  have sz_bw : h0.size ≤ bw := Nat.le_trans K13.1 hsz17
  have ne_a1_bw : a1 ≠ bw := Nat.ne_of_lt (Nat.lt_of_lt_of_le ((V1.ext Et2).keep K6 (ninS ne_a1_b2 nin0)).lt hsz17)
  have pre20 : Go p e bl T17 (mkF m 32 #[rv a1, iv (0 : Int32), iv (2 : Int32), rv b2, iv iB, rv bw] [(.int iB), (.ref bw)]) s1 EF := fun t k => pre18 t (by
   refine XS.astore X17.here hx rfl (B d16_26) rfl rfl (l' := #[rv a1, iv (0 : Int32), iv (2 : Int32), rv b2, iv iB, rv bw]) rfl ?_
   refine XS.aload X17.here hx rfl (B d16_28) rfl rfl ?_
   exact XS.iload X17.here hx rfl (B d16_30) rfl k)
  have hrB := hrg cB (List.mem_of_getElem? hci6)
  have hgB := own_gx (cs := [c0, c1]) (z := (4 : Int32)) hi06 hci6 (by rfl) (Nat.le_of_ble_eq_true rfl)
  obtain ⟨_, _, ⟨T21, L21, k21, n21⟩, -, X21, ⟨Lc21, hQ21, l21, y21, z21⟩, st21⟩ := Jvm.LawKit.callS X17 hx (y := mN8) hown (mvT hZ (hw _ (mW 99 rfl))) (mvT hZ (hw _ (mW 100 rfl))) (mvT hZ (hw _ (mW 45 rfl))) (mvT hZ (hw _ (mW 101 rfl))) (by decide) (backOf (W := 0) (rmJgc l Z a0 hw [] bw iB cz fv kb17 (4 : Int32) _ cB cB T17.heap n0 Z19 O19 J0 VB17 hgB.1 hgB.2.1 hgB.2.2.1 hgB.2.2.2 hrB.1 hrB.2 rfl) hZ (hw _ (mW 101 rfl)) (hw _ (mW 45 rfl)) (by decide) (by decide)) (g := (mkF m 32 #[rv a1, iv (0 : Int32), iv (2 : Int32), rv b2, iv iB, rv bw] [(.int iB), (.ref bw)])) rfl (hM rfl) (argsL := [(.ref bw), (.int iB)]) (rest := []) (lenOf pd5 rfl) rfl (Nat.le_of_eq rfl) (B d16_32) (fun _ _ => ⟨rfl, rfl, wl rfl, wl rfl⟩)
  dsimp only [Pt.U, Pt.locs, Pt.cells, Pt.slots] at X21 l21 y21 z21 st21 hQ21
  subst l21 y21 z21
  obtain ⟨rfl, N21q, hq21⟩ := hQ21
  have N21 := Fr.app N17 N21q
  have pre22 : Go p e bl T21 (mkF m 35 #[rv a1, iv (0 : Int32), iv (2 : Int32), rv b2, iv iB, rv bw] [(.int cB)]) s1 EF := fun t k => pre20 t (st21 t k)
  have e21 : T21.heap = T17.heap := hq21
  have pre23 : Go p e bl T21 (mkF m 38 #[rv a1, iv (0 : Int32), iv (2 : Int32), rv b2, iv iB, rv bw] [(.int (255 : Int32)), (.int cB)]) s1 EF := fun t k => pre22 t (by
   exact XS.sipush X21.here hx rfl (B d16_35) k)
  have pre24 : Go p e bl T21 (mkF m 54 #[rv a1, iv (0 : Int32), iv (2 : Int32), rv b2, iv iB, rv bw] []) s1 EF := fun t k => pre23 t (XS.icmpYes X21.here hx rfl (pc0 := 38) (pc' := 54) rfl (B d16_38) rfl (tlt hgt6).2.2.1 (by decide) (by decide) k)
  have pre25 : Go p e bl T21 (mkF m 56 #[rv a1, iv (0 : Int32), iv (2 : Int32), rv b2, iv iB, rv bw] [(.ref bw)]) s1 EF := fun t k => pre24 t (by
   exact XS.aload X21.here hx rfl (B d16_54) rfl rfl k)
  exact fin1 X21 (v := some (.ref bw)) hrt hlk (wl rfl) (wl rfl) (by rw [e21]; exact Or.inr ⟨_, _, rfl, N21, K19, sz_bw, VB17⟩) (fun fs hr => hEF ▸ pre25 _ (retOut X21 hx Bd.returns rfl (Or.inr (Or.inr (Or.inr (Or.inr ⟨rfl, rfl, rfl⟩)))) (B d16_56) hr))
abbrev rKKc2_0 : Room := { frames := 0, cells := 0, slots := 0, locals := 0 }
theorem efKc2_0 (m : MethodId) (a1 : Addr) : entryFrame m #[(.ref a1), (.int (2 : Int32))] 2 = mkF m 0 #[rv a1, iv (2 : Int32)] [] := by first | (simp [entryFrame, mkF, argsToLocals, Value.category]; done) | rfl
def QKc2_0 (Z : State) (a1 : Addr) (cz : Int32) (fv : Value) (k : ClassId) (vs : List Value) (h0 : Heap) (n0 : Nat) (v : Option Value) (h : Heap) (L : List Loc) : Prop := v = some (.int (0 : Int32)) ∧ Fr n0 L ∧ h = h0
set_option maxRecDepth 65536 in
set_option maxHeartbeats 40000000 in
theorem rmKc2_0 (l : Launch) (Z : State) (a0 : Array Value) (hw : HW a0 Z) (ws : List Jvm.Cond) (a1 : Addr) (cz : Int32) (fv : Value) (k : ClassId) (vs : List Value) (h0 : Heap) (n0 : Nat) (Z0 : n0 ≤ h0.size) (O0 : Old Z n0 h0) (J0 : Jd Z cz fv) (VV : Arv Z h0 a1 k .byte (2 : Int32) vs (.int 0)) :
    MF l Z mN17 jdk_52_method_15_code 2 (some .byte) ws rKKc2_0 #[(.ref a1), (.int (2 : Int32))] h0 (QKc2_0 Z a1 cz fv k vs h0 n0) := by
  refine MetFree.of_bodySF (plainFor_of_name pn3) hisR ?_
  intro p e s m args bl meth c s1 Bd hml0 hP hK
  obtain ⟨rfl, hZ, hh⟩ := hP
  have hx := Bd.exec
  have hby := Bd.bytes
  have B := @hb c _ hby
  have hown : s.vm.findClass "java/lang/StringUTF16" = some m.cls := findClass_of_methodNamed Bd.named
  have hlk : meth.locks = false := BodyLoose.notSynchronized Bd
  have hrt : ∀ {v : Option Value}, meth.sig.returnType = none → v = none := fun h => by rw [Bd.returns] at h; cases h
  have X0 : Stand p l e rKKc2_0 s m #[(.ref a1), (.int (2 : Int32))] bl meth c s1 [] 0 0 := Stand.of_body Bd
  have e0 : s1.heap = h0 := by rw [← hh, Bd.state]; rfl
  have N0 := Fr.nil n0
  obtain ⟨EF, hEF⟩ : ∃ f, f = entryFrame m #[(.ref a1), (.int (2 : Int32))] 2 := ⟨_, rfl⟩
  have pre0 : Go p e bl s1 (mkF m 0 #[rv a1, iv (2 : Int32)] []) s1 EF := fun t k => by rw [hEF]; exact castTop (efKc2_0 m a1) k
  have pre1 : Go p e bl s1 (mkF m 2 #[rv a1, iv (2 : Int32)] [(.ref a1), (.int (2 : Int32))]) s1 EF := fun t k => pre0 t (by
   refine XS.iloadN X0.here hx rfl (B d17_0) rfl ?_
   exact XS.aloadN X0.here hx rfl (B d17_1) rfl rfl k)
  obtain ⟨cl2, Ar2, q2, Sz2, M2, H2, G2⟩ := id VV
  have pre3 : Go p e bl s1 (mkF m 8 #[rv a1, iv (2 : Int32)] [(.int (0 : Int32))]) s1 EF := fun t k => pre1 t (by
   refine X0.arraylength hx (by rw [e0]; exact Ar2.1) (State.isArrayOf_alike hZ.alike Ar2.2.1) (g := (mkF m 2 #[rv a1, iv (2 : Int32)] [(.ref a1), (.int (2 : Int32))])) rfl rfl (B d17_2) _ ?_
   rw [len_of Sz2 M2]
   refine XS.isub X0.here hx rfl (B d17_3) rfl ?_
   refine XS.bipush X0.here hx rfl (B d17_4) ?_
   refine XS.iushr X0.here hx rfl (B d17_6) rfl ?_
   exact XS.i2b X0.here hx rfl (B d17_7) rfl k)
  have hnr : Value.int (nar .byte (0 : Int32)) = (.int (0 : Int32)) := by rfl
  exact fin1 X0 (v := some (.int (0 : Int32))) hrt hlk (wl rfl) (wl rfl) (by rw [e0]; exact ⟨rfl, N0, rfl⟩) (fun fs hr => hEF ▸ pre3 _ (retN X0 hx (t := .byte) Bd.returns (by simp) (B d17_8) (hnr ▸ hr)))
abbrev rKKc2_1 : Room := { frames := 0, cells := 0, slots := 0, locals := 0 }
theorem efKc2_1 (m : MethodId) (a1 : Addr) : entryFrame m #[(.ref a1), (.int (2 : Int32))] 2 = mkF m 0 #[rv a1, iv (2 : Int32)] [] := by first | (simp [entryFrame, mkF, argsToLocals, Value.category]; done) | rfl
def QKc2_1 (Z : State) (a1 : Addr) (cz : Int32) (fv : Value) (k : ClassId) (vs : List Value) (h0 : Heap) (n0 : Nat) (v : Option Value) (h : Heap) (L : List Loc) : Prop := v = some (.int (1 : Int32)) ∧ Fr n0 L ∧ h = h0
set_option maxRecDepth 65536 in
set_option maxHeartbeats 40000000 in
theorem rmKc2_1 (l : Launch) (Z : State) (a0 : Array Value) (hw : HW a0 Z) (ws : List Jvm.Cond) (a1 : Addr) (cz : Int32) (fv : Value) (k : ClassId) (vs : List Value) (h0 : Heap) (n0 : Nat) (Z0 : n0 ≤ h0.size) (O0 : Old Z n0 h0) (J0 : Jd Z cz fv) (VV : Arv Z h0 a1 k .byte (4 : Int32) vs (.int 0)) :
    MF l Z mN17 jdk_52_method_15_code 2 (some .byte) ws rKKc2_1 #[(.ref a1), (.int (2 : Int32))] h0 (QKc2_1 Z a1 cz fv k vs h0 n0) := by
  refine MetFree.of_bodySF (plainFor_of_name pn3) hisR ?_
  intro p e s m args bl meth c s1 Bd hml0 hP hK
  obtain ⟨rfl, hZ, hh⟩ := hP
  have hx := Bd.exec
  have hby := Bd.bytes
  have B := @hb c _ hby
  have hown : s.vm.findClass "java/lang/StringUTF16" = some m.cls := findClass_of_methodNamed Bd.named
  have hlk : meth.locks = false := BodyLoose.notSynchronized Bd
  have hrt : ∀ {v : Option Value}, meth.sig.returnType = none → v = none := fun h => by rw [Bd.returns] at h; cases h
  have X0 : Stand p l e rKKc2_1 s m #[(.ref a1), (.int (2 : Int32))] bl meth c s1 [] 0 0 := Stand.of_body Bd
  have e0 : s1.heap = h0 := by rw [← hh, Bd.state]; rfl
  have N0 := Fr.nil n0
  obtain ⟨EF, hEF⟩ : ∃ f, f = entryFrame m #[(.ref a1), (.int (2 : Int32))] 2 := ⟨_, rfl⟩
  have pre0 : Go p e bl s1 (mkF m 0 #[rv a1, iv (2 : Int32)] []) s1 EF := fun t k => by rw [hEF]; exact castTop (efKc2_1 m a1) k
  have pre1 : Go p e bl s1 (mkF m 2 #[rv a1, iv (2 : Int32)] [(.ref a1), (.int (2 : Int32))]) s1 EF := fun t k => pre0 t (by
   refine XS.iloadN X0.here hx rfl (B d17_0) rfl ?_
   exact XS.aloadN X0.here hx rfl (B d17_1) rfl rfl k)
  obtain ⟨cl2, Ar2, q2, Sz2, M2, H2, G2⟩ := id VV
  have pre3 : Go p e bl s1 (mkF m 8 #[rv a1, iv (2 : Int32)] [(.int (1 : Int32))]) s1 EF := fun t k => pre1 t (by
   refine X0.arraylength hx (by rw [e0]; exact Ar2.1) (State.isArrayOf_alike hZ.alike Ar2.2.1) (g := (mkF m 2 #[rv a1, iv (2 : Int32)] [(.ref a1), (.int (2 : Int32))])) rfl rfl (B d17_2) _ ?_
   rw [len_of Sz2 M2]
   refine XS.isub X0.here hx rfl (B d17_3) rfl ?_
   refine XS.bipush X0.here hx rfl (B d17_4) ?_
   refine XS.iushr X0.here hx rfl (B d17_6) rfl ?_
   exact XS.i2b X0.here hx rfl (B d17_7) rfl k)
  have hnr : Value.int (nar .byte (1 : Int32)) = (.int (1 : Int32)) := by rfl
  exact fin1 X0 (v := some (.int (1 : Int32))) hrt hlk (wl rfl) (wl rfl) (by rw [e0]; exact ⟨rfl, N0, rfl⟩) (fun fs hr => hEF ▸ pre3 _ (retN X0 hx (t := .byte) Bd.returns (by simp) (B d17_8) (hnr ▸ hr)))
abbrev rKKi2 : Room := { frames := 4, cells := 2, slots := 6, locals := 57 }
theorem efKi2 (m : MethodId) (a1 : Addr) (a2 : Addr) : entryFrame m #[(.ref a1), (.ref a2), (.int (0 : Int32)), (.int (2 : Int32)), .null] 6 = mkF m 0 #[rv a1, rv a2, iv (0 : Int32), iv (2 : Int32), .val .null, .unset] [] := by first | (simp [entryFrame, mkF, argsToLocals, Value.category]; done) | rfl
def QKi2 (Z : State) (a1 : Addr) (a2 : Addr) (cz : Int32) (fv : Value) (k1 : ClassId) (c0 : Int32) (c1 : Int32) (h0 : Heap) (n0 : Nat) (v : Option Value) (h : Heap) (L : List Loc) : Prop := v = none ∧ Fr n0 L ∧ Keep h0 h [a1] ∧ Str Z h a1 [c0, c1]
set_option maxRecDepth 65536 in
set_option maxHeartbeats 40000000 in
theorem rmKi2 (l : Launch) (Z : State) (a0 : Array Value) (hw : HW a0 Z) (ws : List Jvm.Cond) (a1 : Addr) (a2 : Addr) (cz : Int32) (fv : Value) (k1 : ClassId) (c0 : Int32) (c1 : Int32) (h0 : Heap) (n0 : Nat) (Z0 : n0 ≤ h0.size) (O0 : Old Z n0 h0) (J0 : Jd Z cz fv) (E1 : Exa Z h0 a1 "java/lang/String") (g_a1 : n0 ≤ a1) (F1 : Fld Z h0 a1 "java/lang/String" "value" "[B" .null) (F2 : Fld Z h0 a1 "java/lang/String" "coder" "B" (.int (0 : Int32))) (V2 : Arv Z h0 a2 k1 .char (2 : Int32) [(.int c0), (.int c1)] (.int (0 : Int32))) (hrg : ∀ c ∈ [c0, c1], 0 ≤ c.toInt ∧ c.toInt < 65536) :
    MF l Z mN18 jdk_42_method_149_code 6 none ws rKKi2 #[(.ref a1), (.ref a2), (.int (0 : Int32)), (.int (2 : Int32)), .null] h0 (QKi2 Z a1 a2 cz fv k1 c0 c1 h0 n0) := by
  refine MetFree.of_bodySF (plainFor_of_name pn0) hisR ?_
  intro p e s m args bl meth c s1 Bd hml0 hP hK
  obtain ⟨rfl, hZ, hh⟩ := hP
  have hx := Bd.exec
  have hby := Bd.bytes
  have B := @hb c _ hby
  have hM := fun {n : Nat} (h : n = 6) => h.trans hml0.symm
  have hown : s.vm.findClass "java/lang/String" = some m.cls := findClass_of_methodNamed Bd.named
  have hnm := (name_of_methodNamed Bd.named Bd.method).1
  have hlk : meth.locks = false := BodyLoose.notSynchronized Bd
  have X0 : Stand p l e rKKi2 s m #[(.ref a1), (.ref a2), (.int (0 : Int32)), (.int (2 : Int32)), .null] bl meth c s1 [] 0 0 := Stand.of_body Bd
  have e0 : s1.heap = h0 := by rw [← hh, Bd.state]; rfl
  have N0 := Fr.nil n0
  obtain ⟨EF, hEF⟩ : ∃ f, f = entryFrame m #[(.ref a1), (.ref a2), (.int (0 : Int32)), (.int (2 : Int32)), .null] 6 := ⟨_, rfl⟩
  have pre0 : Go p e bl s1 (mkF m 0 #[rv a1, rv a2, iv (0 : Int32), iv (2 : Int32), .val .null, .unset] []) s1 EF := fun t k => by rw [hEF]; exact castTop (efKi2 m a1 a2) k
  have pre1 : Go p e bl s1 (mkF m 1 #[rv a1, rv a2, iv (0 : Int32), iv (2 : Int32), .val .null, .unset] [(.ref a1)]) s1 EF := fun t k => pre0 t (by
   exact XS.aloadN X0.here hx rfl (B d18_0) rfl rfl k)
  obtain ⟨T2, X2, e2, st2⟩ := initO X0 hx hZ hown (hw _ (mW 17 rfl)) (hw _ (mW 18 rfl)) (hw _ (mW 19 rfl)) e0 (g := (mkF m 1 #[rv a1, rv a2, iv (0 : Int32), iv (2 : Int32), .val .null, .unset] [(.ref a1)])) rfl (hM rfl) rfl (B d18_1) (by decide) (W := 0) (Nat.le_of_eq rfl) (by decide)
  have pre3 : Go p e bl T2 (mkF m 4 #[rv a1, rv a2, iv (0 : Int32), iv (2 : Int32), .val .null, .unset] []) s1 EF := fun t k => pre1 t (st2 t k)
  have pre4 : Go p e bl T2 (mkF m 5 #[rv a1, rv a2, iv (0 : Int32), iv (2 : Int32), .val .null, .unset] [(.int (2 : Int32))]) s1 EF := fun t k => pre3 t (by
   exact XS.iloadN X2.here hx rfl (B d18_4) rfl k)
  have pre5 : Go p e bl T2 (mkF m 27 #[rv a1, rv a2, iv (0 : Int32), iv (2 : Int32), .val .null, .unset] []) s1 EF := fun t k => pre4 t (XS.ifYes X2.here hx rfl (pc0 := 5) (pc' := 27) rfl (B d18_5) rfl ((if0 _ _).trans (feq (by decide : ¬ ((2 : Int32) = (0 : Int32)))).2) (by decide) (by decide) k)
  obtain ⟨T6, X6, e6, st6⟩ := getS2 X2 hx hZ hown (host := "") (Or.inl (hw _ (mW 42 rfl))) Via.refl e2 (J0.1.ext O0.2) (g := (mkF m 27 #[rv a1, rv a2, iv (0 : Int32), iv (2 : Int32), .val .null, .unset] [])) rfl (B d18_27)
  have pre7 : Go p e bl T6 (mkF m 30 #[rv a1, rv a2, iv (0 : Int32), iv (2 : Int32), .val .null, .unset] [(.int cz)]) s1 EF := fun t k => pre5 t (st6 t k)
  have pre8 : Go p e bl T6 (mkF m 33 #[rv a1, rv a2, iv (0 : Int32), iv (2 : Int32), .val .null, .unset] []) s1 EF := fun t k => pre7 t (XS.ifNo X6.here hx rfl (B d18_30) rfl ((if0 _ _).trans (feq J0.2.1).1) k)
  have pre9 : Go p e bl T6 (mkF m 36 #[rv a1, rv a2, iv (0 : Int32), iv (2 : Int32), .val .null, .unset] [(.int (2 : Int32)), (.int (0 : Int32)), (.ref a2)]) s1 EF := fun t k => pre8 t (by
   refine XS.aloadN X6.here hx rfl (B d18_33) rfl rfl ?_
   refine XS.iloadN X6.here hx rfl (B d18_34) rfl ?_
   exact XS.iloadN X6.here hx rfl (B d18_35) rfl k)
  obtain ⟨_, _, ⟨T10, L10, k10, n10⟩, -, X10, ⟨Lc10, hQ10, l10, y10, z10⟩, st10⟩ := Jvm.LawKit.callS X6 hx (y := mN16) hown (mvT hZ (hw _ (mW 43 rfl))) (mvT hZ (hw _ (mW 44 rfl))) (mvT hZ (hw _ (mW 45 rfl))) (mvT hZ (hw _ (mW 46 rfl))) (by decide) (backOf (W := 0) (rmKb2 l Z a0 hw [] a2 cz fv k1 c0 c1 h0 n0 Z0 O0 J0 V2 hrg) hZ (hw _ (mW 46 rfl)) (hw _ (mW 45 rfl)) (by decide) (by decide)) (g := (mkF m 36 #[rv a1, rv a2, iv (0 : Int32), iv (2 : Int32), .val .null, .unset] [(.int (2 : Int32)), (.int (0 : Int32)), (.ref a2)])) rfl (hM rfl) (argsL := [(.ref a2), (.int (0 : Int32)), (.int (2 : Int32))]) (rest := []) (lenOf pd11 rfl) rfl (Nat.le_of_eq rfl) (B d18_36) (fun _ _ => ⟨rfl, e6, wl rfl, wl rfl⟩)
  dsimp only [Pt.U, Pt.locs, Pt.cells, Pt.slots] at X10 l10 y10 z10 st10 hQ10
  subst l10 y10 z10
  rcases hQ10 with ⟨bv, kb10, rfl, N10q, K10, hsz10, LE10, VB10⟩ | ⟨bv, kb10, rfl, N10q, K10, hsz10, VB10⟩
  · have N10 := Fr.app N0 N10q
    have pre11 : Go p e bl T10 (mkF m 39 #[rv a1, rv a2, iv (0 : Int32), iv (2 : Int32), .val .null, .unset] [(.ref bv)]) s1 EF := fun t k => pre9 t (st10 t k)
    have O12 : Old Z n0 T10.heap := O0.keep K10 all0
    have Z12 : n0 ≤ T10.heap.size := Nat.le_trans Z0 K10.1
    have K12 : Keep h0 T10.heap [a1] := (Keep.refl h0 [a1]).trans K10 all0
    have g_bv : n0 ≤ bv := Nat.le_trans Z0 hsz10
    have sz_bv : h0.size ≤ bv := Nat.le_trans (Keep.refl h0 [a1]).1 hsz10
    have ne_a1_bv : a1 ≠ bv := Nat.ne_of_lt (Nat.lt_of_lt_of_le E1.lt hsz10)
    have pre13 : Go p e bl T10 (mkF m 45 #[rv a1, rv a2, iv (0 : Int32), iv (2 : Int32), .val .null, rv bv] [(.int (2 : Int32)), (.ref bv), (.ref a1)]) s1 EF := fun t k => pre11 t (by
     refine XS.astore X10.here hx rfl (B d18_39) rfl rfl (l' := #[rv a1, rv a2, iv (0 : Int32), iv (2 : Int32), .val .null, rv bv]) rfl ?_
     refine XS.aloadN X10.here hx rfl (B d18_41) rfl rfl ?_
     refine XS.aload X10.here hx rfl (B d18_42) rfl rfl ?_
     exact XS.iloadN X10.here hx rfl (B d18_44) rfl k)
    obtain ⟨_, _, ⟨T14, L14, k14, n14⟩, -, X14, ⟨Lc14, hQ14, l14, y14, z14⟩, st14⟩ := Jvm.LawKit.callS X10 hx (y := mN17) hown (mvT hZ (hw _ (mW 50 rfl))) (mvT hZ (hw _ (mW 51 rfl))) (mvT hZ (hw _ (mW 45 rfl))) (mvT hZ (hw _ (mW 52 rfl))) (by decide) (backOf (W := 1) (rmKc2_0 l Z a0 hw [] bv cz fv kb10 _ T10.heap n0 Z12 O12 J0 VB10) hZ (hw _ (mW 52 rfl)) (hw _ (mW 45 rfl)) (by decide) (by decide)) (g := (mkF m 45 #[rv a1, rv a2, iv (0 : Int32), iv (2 : Int32), .val .null, rv bv] [(.int (2 : Int32)), (.ref bv), (.ref a1)])) rfl (hM rfl) (argsL := [(.ref bv), (.int (2 : Int32))]) (rest := [(.ref a1)]) (lenOf pd12 rfl) rfl (Nat.le_of_eq rfl) (B d18_45) (fun _ _ => ⟨rfl, rfl, wl rfl, wl rfl⟩)
    dsimp only [Pt.U, Pt.locs, Pt.cells, Pt.slots] at X14 l14 y14 z14 st14 hQ14
    subst l14 y14 z14
    obtain ⟨rfl, N14q, hq14⟩ := hQ14
    have N14 := Fr.app N10 N14q
    have pre15 : Go p e bl T14 (mkF m 48 #[rv a1, rv a2, iv (0 : Int32), iv (2 : Int32), .val .null, rv bv] [(.int (0 : Int32)), (.ref a1)]) s1 EF := fun t k => pre13 t (st14 t k)
    have e14 : T14.heap = T10.heap := hq14
    obtain ⟨T16, h16, X16, e16, W16, st16⟩ := putFN X14 hx hZ hown (hw _ (mW 27 rfl)) Via.refl e14 (F2.keep K10 nin0) (E1.keep K10) (Or.inr ⟨(hw _ (mW 23 rfl)), rfl, hnm⟩) (hw _ (mW 7 rfl)) (ty := .byte) (v' := (.int (0 : Int32))) (by decide) rfl rfl (g := (mkF m 48 #[rv a1, rv a2, iv (0 : Int32), iv (2 : Int32), .val .null, rv bv] [(.int (0 : Int32)), (.ref a1)])) rfl rfl (B d18_48)
    have pre17 : Go p e bl T16 (mkF m 51 #[rv a1, rv a2, iv (0 : Int32), iv (2 : Int32), .val .null, rv bv] []) s1 EF := fun t k => pre15 t (st16 t k)
    have O18 : Old Z n0 h16 := O12.wr W16 g_a1
    have Z18 : n0 ≤ h16.size := Nat.le_trans Z12 (Keep.of_wr W16).1
    have K18 : Keep h0 h16 [a1] := K12.wr W16 (Or.inl (List.mem_of_getElem? (i := 0) rfl))
    have Fw16 := Fld.same W16 (F2.keep K10 nin0)
    have N16 := Fr.snoc X16 N14 g_a1
    have pre19 : Go p e bl T16 (mkF m 54 #[rv a1, rv a2, iv (0 : Int32), iv (2 : Int32), .val .null, rv bv] [(.ref bv), (.ref a1)]) s1 EF := fun t k => pre17 t (by
     refine XS.aloadN X16.here hx rfl (B d18_51) rfl rfl ?_
     exact XS.aload X16.here hx rfl (B d18_52) rfl rfl k)
    obtain ⟨T20, h20, X20, e20, W20, st20⟩ := putF X16 hx hZ hown (host := "") (Or.inl (hw _ (mW 26 rfl))) Via.refl e16 (Fld.other W16 (F1.keep K10 nin0) (Or.inr (slot_ne (Or.inr (hw _ (mW 22 rfl))) (Or.inr (hw _ (mW 23 rfl))) (by decide) (t := (.array .byte)) (t' := .byte) (by decide) (by decide)))) ((E1.keep K10).wr W16) (Or.inr ⟨(hw _ (mW 22 rfl)), rfl, hnm⟩) (hw _ (mW 7 rfl)) (ty := (.array .byte)) (by decide) rfl rfl (g := (mkF m 54 #[rv a1, rv a2, iv (0 : Int32), iv (2 : Int32), .val .null, rv bv] [(.ref bv), (.ref a1)])) rfl rfl (B d18_54)
    have pre21 : Go p e bl T20 (mkF m 57 #[rv a1, rv a2, iv (0 : Int32), iv (2 : Int32), .val .null, rv bv] []) s1 EF := fun t k => pre19 t (st20 t k)
    have O22 : Old Z n0 h20 := O18.wr W20 g_a1
    have Z22 : n0 ≤ h20.size := Nat.le_trans Z18 (Keep.of_wr W20).1
    have K22 : Keep h0 h20 [a1] := K18.wr W20 (Or.inl (List.mem_of_getElem? (i := 0) rfl))
    have Fw20 := Fld.same W20 (Fld.other W16 (F1.keep K10 nin0) (Or.inr (slot_ne (Or.inr (hw _ (mW 22 rfl))) (Or.inr (hw _ (mW 23 rfl))) (by decide) (t := (.array .byte)) (t' := .byte) (by decide) (by decide))))
    have N20 := Fr.snoc X20 N16 g_a1
    exact fin1 X20 (v := none) (fun _ => rfl) hlk (wl rfl) (wl rfl) (by rw [e20]; exact ⟨rfl, N20, K22, ⟨_, _, _, _, _, (((E1.keep K10).wr W16).wr W20), (Fld.other W20 Fw16 (Or.inr (slot_ne (Or.inr (hw _ (mW 23 rfl))) (Or.inr (hw _ (mW 22 rfl))) (by decide) (t := .byte) (t' := (.array .byte)) (by decide) (by decide)))), Fw20, ((VB10.other W16 (Ne.symm ne_a1_bv)).other W20 (Ne.symm ne_a1_bv)), Nat.le_of_ble_eq_true rfl, Or.inl ⟨rfl, by rfl, rfl, own_le hrg LE10⟩⟩⟩) (fun fs hr => hEF ▸ pre21 _ (X20.returnOut hx Bd.returns (B d18_57) hr))
  have N10 := Fr.app N0 N10q
  have pre23 : Go p e bl T10 (mkF m 39 #[rv a1, rv a2, iv (0 : Int32), iv (2 : Int32), .val .null, .unset] [(.ref bv)]) s1 EF := fun t k => pre9 t (st10 t k)
  have O24 : Old Z n0 T10.heap := O0.keep K10 all0
  have Z24 : n0 ≤ T10.heap.size := Nat.le_trans Z0 K10.1
  have K24 : Keep h0 T10.heap [a1] := (Keep.refl h0 [a1]).trans K10 all0
  have g_bv : n0 ≤ bv := Nat.le_trans Z0 hsz10
  have sz_bv : h0.size ≤ bv := Nat.le_trans (Keep.refl h0 [a1]).1 hsz10
  have ne_a1_bv : a1 ≠ bv := Nat.ne_of_lt (Nat.lt_of_lt_of_le E1.lt hsz10)
  have pre25 : Go p e bl T10 (mkF m 45 #[rv a1, rv a2, iv (0 : Int32), iv (2 : Int32), .val .null, rv bv] [(.int (2 : Int32)), (.ref bv), (.ref a1)]) s1 EF := fun t k => pre23 t (by
   refine XS.astore X10.here hx rfl (B d18_39) rfl rfl (l' := #[rv a1, rv a2, iv (0 : Int32), iv (2 : Int32), .val .null, rv bv]) rfl ?_
   refine XS.aloadN X10.here hx rfl (B d18_41) rfl rfl ?_
   refine XS.aload X10.here hx rfl (B d18_42) rfl rfl ?_
   exact XS.iloadN X10.here hx rfl (B d18_44) rfl k)
  obtain ⟨_, _, ⟨T26, L26, k26, n26⟩, -, X26, ⟨Lc26, hQ26, l26, y26, z26⟩, st26⟩ := Jvm.LawKit.callS X10 hx (y := mN17) hown (mvT hZ (hw _ (mW 50 rfl))) (mvT hZ (hw _ (mW 51 rfl))) (mvT hZ (hw _ (mW 45 rfl))) (mvT hZ (hw _ (mW 52 rfl))) (by decide) (backOf (W := 1) (rmKc2_1 l Z a0 hw [] bv cz fv kb10 _ T10.heap n0 Z24 O24 J0 VB10) hZ (hw _ (mW 52 rfl)) (hw _ (mW 45 rfl)) (by decide) (by decide)) (g := (mkF m 45 #[rv a1, rv a2, iv (0 : Int32), iv (2 : Int32), .val .null, rv bv] [(.int (2 : Int32)), (.ref bv), (.ref a1)])) rfl (hM rfl) (argsL := [(.ref bv), (.int (2 : Int32))]) (rest := [(.ref a1)]) (lenOf pd12 rfl) rfl (Nat.le_of_eq rfl) (B d18_45) (fun _ _ => ⟨rfl, rfl, wl rfl, wl rfl⟩)
  dsimp only [Pt.U, Pt.locs, Pt.cells, Pt.slots] at X26 l26 y26 z26 st26 hQ26
  subst l26 y26 z26
  obtain ⟨rfl, N26q, hq26⟩ := hQ26
  have N26 := Fr.app N10 N26q
  have pre27 : Go p e bl T26 (mkF m 48 #[rv a1, rv a2, iv (0 : Int32), iv (2 : Int32), .val .null, rv bv] [(.int (1 : Int32)), (.ref a1)]) s1 EF := fun t k => pre25 t (st26 t k)
  have e26 : T26.heap = T10.heap := hq26
  obtain ⟨T28, h28, X28, e28, W28, st28⟩ := putFN X26 hx hZ hown (hw _ (mW 27 rfl)) Via.refl e26 (F2.keep K10 nin0) (E1.keep K10) (Or.inr ⟨(hw _ (mW 23 rfl)), rfl, hnm⟩) (hw _ (mW 7 rfl)) (ty := .byte) (v' := (.int (1 : Int32))) (by decide) rfl rfl (g := (mkF m 48 #[rv a1, rv a2, iv (0 : Int32), iv (2 : Int32), .val .null, rv bv] [(.int (1 : Int32)), (.ref a1)])) rfl rfl (B d18_48)
  have pre29 : Go p e bl T28 (mkF m 51 #[rv a1, rv a2, iv (0 : Int32), iv (2 : Int32), .val .null, rv bv] []) s1 EF := fun t k => pre27 t (st28 t k)
  have O30 : Old Z n0 h28 := O24.wr W28 g_a1
  have Z30 : n0 ≤ h28.size := Nat.le_trans Z24 (Keep.of_wr W28).1
  have K30 : Keep h0 h28 [a1] := K24.wr W28 (Or.inl (List.mem_of_getElem? (i := 0) rfl))
  have Fw28 := Fld.same W28 (F2.keep K10 nin0)
  have N28 := Fr.snoc X28 N26 g_a1
  have pre31 : Go p e bl T28 (mkF m 54 #[rv a1, rv a2, iv (0 : Int32), iv (2 : Int32), .val .null, rv bv] [(.ref bv), (.ref a1)]) s1 EF := fun t k => pre29 t (by
   refine XS.aloadN X28.here hx rfl (B d18_51) rfl rfl ?_
   exact XS.aload X28.here hx rfl (B d18_52) rfl rfl k)
  obtain ⟨T32, h32, X32, e32, W32, st32⟩ := putF X28 hx hZ hown (host := "") (Or.inl (hw _ (mW 26 rfl))) Via.refl e28 (Fld.other W28 (F1.keep K10 nin0) (Or.inr (slot_ne (Or.inr (hw _ (mW 22 rfl))) (Or.inr (hw _ (mW 23 rfl))) (by decide) (t := (.array .byte)) (t' := .byte) (by decide) (by decide)))) ((E1.keep K10).wr W28) (Or.inr ⟨(hw _ (mW 22 rfl)), rfl, hnm⟩) (hw _ (mW 7 rfl)) (ty := (.array .byte)) (by decide) rfl rfl (g := (mkF m 54 #[rv a1, rv a2, iv (0 : Int32), iv (2 : Int32), .val .null, rv bv] [(.ref bv), (.ref a1)])) rfl rfl (B d18_54)
  have pre33 : Go p e bl T32 (mkF m 57 #[rv a1, rv a2, iv (0 : Int32), iv (2 : Int32), .val .null, rv bv] []) s1 EF := fun t k => pre31 t (st32 t k)
  have O34 : Old Z n0 h32 := O30.wr W32 g_a1
  have Z34 : n0 ≤ h32.size := Nat.le_trans Z30 (Keep.of_wr W32).1
  have K34 : Keep h0 h32 [a1] := K30.wr W32 (Or.inl (List.mem_of_getElem? (i := 0) rfl))
  have Fw32 := Fld.same W32 (Fld.other W28 (F1.keep K10 nin0) (Or.inr (slot_ne (Or.inr (hw _ (mW 22 rfl))) (Or.inr (hw _ (mW 23 rfl))) (by decide) (t := (.array .byte)) (t' := .byte) (by decide) (by decide))))
  have N32 := Fr.snoc X32 N28 g_a1
  exact fin1 X32 (v := none) (fun _ => rfl) hlk (wl rfl) (wl rfl) (by rw [e32]; exact ⟨rfl, N32, K34, ⟨_, _, _, _, _, (((E1.keep K10).wr W28).wr W32), (Fld.other W32 Fw28 (Or.inr (slot_ne (Or.inr (hw _ (mW 23 rfl))) (Or.inr (hw _ (mW 22 rfl))) (by decide) (t := .byte) (t' := (.array .byte)) (by decide) (by decide)))), Fw32, ((VB10.other W28 (Ne.symm ne_a1_bv)).other W32 (Ne.symm ne_a1_bv)), Nat.le_of_ble_eq_true rfl, Or.inr ⟨rfl, by rfl, rfl, hrg⟩⟩⟩) (fun fs hr => hEF ▸ pre33 _ (X32.returnOut hx Bd.returns (B d18_57) hr))
abbrev rKKj2 : Room := { frames := 5, cells := 2, slots := 6, locals := 74 }
theorem efKj2 (m : MethodId) (a1 : Addr) (a2 : Addr) : entryFrame m #[(.ref a1), (.ref a2)] 2 = mkF m 0 #[rv a1, rv a2] [] := by first | (simp [entryFrame, mkF, argsToLocals, Value.category]; done) | rfl
def QKj2 (Z : State) (a1 : Addr) (a2 : Addr) (cz : Int32) (fv : Value) (k1 : ClassId) (c0 : Int32) (c1 : Int32) (h0 : Heap) (n0 : Nat) (v : Option Value) (h : Heap) (L : List Loc) : Prop := v = none ∧ Fr n0 L ∧ Keep h0 h [a1] ∧ Str Z h a1 [c0, c1]
set_option maxRecDepth 65536 in
set_option maxHeartbeats 40000000 in
theorem rmKj2 (l : Launch) (Z : State) (a0 : Array Value) (hw : HW a0 Z) (ws : List Jvm.Cond) (a1 : Addr) (a2 : Addr) (cz : Int32) (fv : Value) (k1 : ClassId) (c0 : Int32) (c1 : Int32) (h0 : Heap) (n0 : Nat) (Z0 : n0 ≤ h0.size) (O0 : Old Z n0 h0) (J0 : Jd Z cz fv) (E1 : Exa Z h0 a1 "java/lang/String") (g_a1 : n0 ≤ a1) (F1 : Fld Z h0 a1 "java/lang/String" "value" "[B" .null) (F2 : Fld Z h0 a1 "java/lang/String" "coder" "B" (.int (0 : Int32))) (V2 : Arv Z h0 a2 k1 .char (2 : Int32) [(.int c0), (.int c1)] (.int (0 : Int32))) (hrg : ∀ c ∈ [c0, c1], 0 ≤ c.toInt ∧ c.toInt < 65536) :
    MF l Z mN19 jdk_42_method_3_code 2 none ws rKKj2 #[(.ref a1), (.ref a2)] h0 (QKj2 Z a1 a2 cz fv k1 c0 c1 h0 n0) := by
  refine MetFree.of_bodySF (plainFor_of_name pn0) hisR ?_
  intro p e s m args bl meth c s1 Bd hml0 hP hK
  obtain ⟨rfl, hZ, hh⟩ := hP
  have hx := Bd.exec
  have hby := Bd.bytes
  have B := @hb c _ hby
  have hM := fun {n : Nat} (h : n = 2) => h.trans hml0.symm
  have hown : s.vm.findClass "java/lang/String" = some m.cls := findClass_of_methodNamed Bd.named
  have hlk : meth.locks = false := BodyLoose.notSynchronized Bd
  have X0 : Stand p l e rKKj2 s m #[(.ref a1), (.ref a2)] bl meth c s1 [] 0 0 := Stand.of_body Bd
  have e0 : s1.heap = h0 := by rw [← hh, Bd.state]; rfl
  have N0 := Fr.nil n0
  obtain ⟨EF, hEF⟩ : ∃ f, f = entryFrame m #[(.ref a1), (.ref a2)] 2 := ⟨_, rfl⟩
  have pre0 : Go p e bl s1 (mkF m 0 #[rv a1, rv a2] []) s1 EF := fun t k => by rw [hEF]; exact castTop (efKj2 m a1 a2) k
  have pre1 : Go p e bl s1 (mkF m 4 #[rv a1, rv a2] [(.ref a2), (.int (0 : Int32)), (.ref a2), (.ref a1)]) s1 EF := fun t k => pre0 t (by
   refine XS.aloadN X0.here hx rfl (B d19_0) rfl rfl ?_
   refine XS.aloadN X0.here hx rfl (B d19_1) rfl rfl ?_
   refine XS.iconst X0.here hx rfl (B d19_2) ?_
   exact XS.aloadN X0.here hx rfl (B d19_3) rfl rfl k)
  obtain ⟨cl2, Ar2, q2, Sz2, M2, H2, G2⟩ := id V2
  have pre3 : Go p e bl s1 (mkF m 6 #[rv a1, rv a2] [.null, (.int (2 : Int32)), (.int (0 : Int32)), (.ref a2), (.ref a1)]) s1 EF := fun t k => pre1 t (by
   refine X0.arraylength hx (by rw [e0]; exact Ar2.1) (State.isArrayOf_alike hZ.alike Ar2.2.1) (g := (mkF m 4 #[rv a1, rv a2] [(.ref a2), (.int (0 : Int32)), (.ref a2), (.ref a1)])) rfl rfl (B d19_4) _ ?_
   rw [len_of Sz2 M2]
   exact XS.aconstNull X0.here hx rfl (B d19_5) k)
  obtain ⟨_, _, ⟨T4, L4, k4, n4⟩, -, X4, ⟨Lc4, hQ4, l4, y4, z4⟩, st4⟩ := X0.specialBack hx (y := mN18) rfl hown (mvT hZ (hw _ (mW 13 rfl))) (mvT hZ (hw _ (mW 14 rfl))) (mvT hZ (hw _ (mW 16 rfl))) (by decide) (backOf (W := 0) (rmKi2 l Z a0 hw [] a1 a2 cz fv k1 c0 c1 h0 n0 Z0 O0 J0 E1 g_a1 F1 F2 V2 hrg) hZ (hw _ (mW 16 rfl)) (hw _ (mW 8 rfl)) (by decide) (by decide)) (g := (mkF m 6 #[rv a1, rv a2] [.null, (.int (2 : Int32)), (.int (0 : Int32)), (.ref a2), (.ref a1)])) rfl (hM rfl) (Steps.refl _) (a := a1) (argsL := [(.ref a2), (.int (0 : Int32)), (.int (2 : Int32)), .null]) (rest := []) (lenOf pd13 rfl) rfl (Nat.le_of_eq rfl) (B d19_6) (fun _ _ => ⟨rfl, e0, wl rfl, wl rfl⟩)
  dsimp only [Pt.U, Pt.locs, Pt.cells, Pt.slots] at X4 l4 y4 z4 st4 hQ4
  subst l4 y4 z4
  obtain ⟨rfl, N4q, K4, SF4⟩ := hQ4
  have N4 := Fr.app N0 N4q
  have pre5 : Go p e bl T4 (mkF m 9 #[rv a1, rv a2] []) s1 EF := fun t k => pre3 t (st4.trans k)
  have O6 : Old Z n0 T4.heap := O0.keep K4 (allS g_a1 all0)
  have Z6 : n0 ≤ T4.heap.size := Nat.le_trans Z0 K4.1
  have K6 : Keep h0 T4.heap [a1] := (Keep.refl h0 [a1]).trans K4 (allS (Or.inl (List.mem_of_getElem? (i := 0) rfl)) all0)
  exact fin1 X4 (v := none) (fun _ => rfl) hlk (wl rfl) (wl rfl) (by exact ⟨rfl, N4, K6, SF4⟩) (fun fs hr => hEF ▸ pre5 _ (X4.returnOut hx Bd.returns (B d19_9) hr))
abbrev rKKa3 : Room := { frames := 0, cells := 0, slots := 0, locals := 0 }
theorem efKa3 (m : MethodId) (a1 : Addr) (a2 : Addr) : entryFrame m #[(.ref a1), (.int (0 : Int32)), (.ref a2), (.int (0 : Int32)), (.int (3 : Int32))] 7 = mkF m 0 #[rv a1, iv (0 : Int32), rv a2, iv (0 : Int32), iv (3 : Int32), .unset, .unset] [] := by first | (simp [entryFrame, mkF, argsToLocals, Value.category]; done) | rfl
def QKa3 (Z : State) (a1 : Addr) (a2 : Addr) (cz : Int32) (fv : Value) (k1 : ClassId) (k2 : ClassId) (c0 : Int32) (c1 : Int32) (c2 : Int32) (h0 : Heap) (n0 : Nat) (v : Option Value) (h : Heap) (L : List Loc) : Prop := (v = some (.int (3 : Int32)) ∧ Fr n0 L ∧ Keep h0 h [a2] ∧ (∀ c ∈ [c0, c1, c2], ¬ (255 : Int32) < c) ∧ Arv Z h a2 k2 .byte (3 : Int32) [(.int (c0.toInt8.toInt32)), (.int (c1.toInt8.toInt32)), (.int (c2.toInt8.toInt32))] (.int (0 : Int32))) ∨ (∃ (i ci : Int32), v = some (.int i) ∧ Fr n0 L ∧ Keep h0 h [a2] ∧ ¬ i < 0 ∧ ¬ i = (3 : Int32) ∧ [c0, c1, c2][i.toNatClampNeg]? = some ci ∧ (255 : Int32) < ci)
set_option maxRecDepth 65536 in
set_option maxHeartbeats 40000000 in
theorem rmKa3 (l : Launch) (Z : State) (a0 : Array Value) (hw : HW a0 Z) (ws : List Jvm.Cond) (a1 : Addr) (a2 : Addr) (cz : Int32) (fv : Value) (k1 : ClassId) (k2 : ClassId) (c0 : Int32) (c1 : Int32) (c2 : Int32) (h0 : Heap) (n0 : Nat) (Z0 : n0 ≤ h0.size) (O0 : Old Z n0 h0) (J0 : Jd Z cz fv) (V1 : Arv Z h0 a1 k1 .char (3 : Int32) [(.int c0), (.int c1), (.int c2)] (.int (0 : Int32))) (V2 : Arv Z h0 a2 k2 .byte (3 : Int32) [(.int (0 : Int32)), (.int (0 : Int32)), (.int (0 : Int32))] (.int (0 : Int32))) (ne12 : a1 ≠ a2) (g_a2 : n0 ≤ a2) :
    MF l Z mN11 jdk_52_method_21_code 7 (some .int) ws rKKa3 #[(.ref a1), (.int (0 : Int32)), (.ref a2), (.int (0 : Int32)), (.int (3 : Int32))] h0 (QKa3 Z a1 a2 cz fv k1 k2 c0 c1 c2 h0 n0) := by
  refine MetFree.of_bodySF (plainFor_of_name pn3) hisR ?_
  intro p e s m args bl meth c s1 Bd hml0 hP hK
  obtain ⟨rfl, hZ, hh⟩ := hP
  have hx := Bd.exec
  have hby := Bd.bytes
  have B := @hb c _ hby
  have hown : s.vm.findClass "java/lang/StringUTF16" = some m.cls := findClass_of_methodNamed Bd.named
  have hlk : meth.locks = false := BodyLoose.notSynchronized Bd
  have hrt : ∀ {v : Option Value}, meth.sig.returnType = none → v = none := fun h => by rw [Bd.returns] at h; cases h
  have X0 : Stand p l e rKKa3 s m #[(.ref a1), (.int (0 : Int32)), (.ref a2), (.int (0 : Int32)), (.int (3 : Int32))] bl meth c s1 [] 0 0 := Stand.of_body Bd
  have e0 : s1.heap = h0 := by rw [← hh, Bd.state]; rfl
  have N0 := Fr.nil n0
  obtain ⟨EF, hEF⟩ : ∃ f, f = entryFrame m #[(.ref a1), (.int (0 : Int32)), (.ref a2), (.int (0 : Int32)), (.int (3 : Int32))] 7 := ⟨_, rfl⟩
  have pre0 : Go p e bl s1 (mkF m 0 #[rv a1, iv (0 : Int32), rv a2, iv (0 : Int32), iv (3 : Int32), .unset, .unset] []) s1 EF := fun t k => by rw [hEF]; exact castTop (efKa3 m a1 a2) k
  have pre1 : Go p e bl s1 (mkF m 7 #[rv a1, iv (0 : Int32), rv a2, iv (0 : Int32), iv (3 : Int32), iv (0 : Int32), .unset] [(.int (3 : Int32)), (.int (0 : Int32))]) s1 EF := fun t k => pre0 t (by
   refine XS.iconst X0.here hx rfl (B d11_0) ?_
   refine XS.istore X0.here hx rfl (B d11_1) rfl (l' := #[rv a1, iv (0 : Int32), rv a2, iv (0 : Int32), iv (3 : Int32), iv (0 : Int32), .unset]) rfl ?_
   refine XS.iload X0.here hx rfl (B d11_3) rfl ?_
   exact XS.iload X0.here hx rfl (B d11_5) rfl k)
  have pre2 : Go p e bl s1 (mkF m 10 #[rv a1, iv (0 : Int32), rv a2, iv (0 : Int32), iv (3 : Int32), iv (0 : Int32), .unset] []) s1 EF := fun t k => pre1 t (XS.icmpNo X0.here hx rfl (B d11_7) rfl (tlt (by decide : (0 : Int32) < (3 : Int32))).2.1 k)
  have pre3 : Go p e bl s1 (mkF m 12 #[rv a1, iv (0 : Int32), rv a2, iv (0 : Int32), iv (3 : Int32), iv (0 : Int32), .unset] [(.int (0 : Int32)), (.ref a1)]) s1 EF := fun t k => pre2 t (by
   refine XS.aloadN X0.here hx rfl (B d11_10) rfl rfl ?_
   exact XS.iloadN X0.here hx rfl (B d11_11) rfl k)
  obtain ⟨cl4, Ar4, q4, Sz4, M4, H4, G4⟩ := id V1
  have hin4 : ¬ ((0 : Int32) < 0 ∨ cl4.slots.size ≤ ((0 : Int32)).toNatClampNeg) := inb_of Sz4 ⟨by decide, by decide⟩
  have hat4 : cl4.slots[((0 : Int32)).toNatClampNeg]? = some (.int c0) := Has.at H4 hin4 rfl
  have pre5 : Go p e bl s1 (mkF m 20 #[rv a1, iv (0 : Int32), rv a2, iv (0 : Int32), iv (3 : Int32), iv (0 : Int32), iv c0] [(.int (255 : Int32)), (.int c0)]) s1 EF := fun t k => pre3 t (by
   refine X0.caload hx (j := (0 : Int32)) (v := (.int c0)) (by rw [e0]; exact Ar4.1) (State.isArrayOf_alike hZ.alike Ar4.2.1) Ar4.2.2 hin4 hat4 (g := (mkF m 12 #[rv a1, iv (0 : Int32), rv a2, iv (0 : Int32), iv (3 : Int32), iv (0 : Int32), .unset] [(.int (0 : Int32)), (.ref a1)])) rfl rfl (B d11_12) _ ?_
   refine XS.istore X0.here hx rfl (B d11_13) rfl (l' := #[rv a1, iv (0 : Int32), rv a2, iv (0 : Int32), iv (3 : Int32), iv (0 : Int32), iv c0]) rfl ?_
   refine XS.iload X0.here hx rfl (B d11_15) rfl ?_
   exact XS.sipush X0.here hx rfl (B d11_17) k)
  by_cases hc20 : (255 : Int32) < c0
  · have pre6 : Go p e bl s1 (mkF m 23 #[rv a1, iv (0 : Int32), rv a2, iv (0 : Int32), iv (3 : Int32), iv (0 : Int32), iv c0] []) s1 EF := fun t k => pre5 t (XS.icmpNo X0.here hx rfl (B d11_20) rfl (tlt hc20).2.2.2 k)
    have pre7 : Go p e bl s1 (mkF m 25 #[rv a1, iv (0 : Int32), rv a2, iv (0 : Int32), iv (3 : Int32), iv (0 : Int32), iv c0] [(.int (0 : Int32))]) s1 EF := fun t k => pre6 t (by
     exact XS.iload X0.here hx rfl (B d11_23) rfl k)
    exact fin1 X0 (v := some (.int (0 : Int32))) hrt hlk (wl rfl) (wl rfl) (by rw [e0]; exact Or.inr ⟨_, _, rfl, N0, (Keep.refl h0 [a2]), (by decide), (by decide), rfl, hc20⟩) (fun fs hr => hEF ▸ pre7 _ (retOut X0 hx Bd.returns rfl (Or.inl ⟨rfl, Or.inl rfl, _, rfl⟩) (B d11_25) hr))
  have pre8 : Go p e bl s1 (mkF m 26 #[rv a1, iv (0 : Int32), rv a2, iv (0 : Int32), iv (3 : Int32), iv (0 : Int32), iv c0] []) s1 EF := fun t k => pre5 t (XS.icmpYes X0.here hx rfl (pc0 := 20) (pc' := 26) rfl (B d11_20) rfl (flt hc20).2.2.2 (by decide) (by decide) k)
  have pre9 : Go p e bl s1 (mkF m 31 #[rv a1, iv (0 : Int32), rv a2, iv (0 : Int32), iv (3 : Int32), iv (0 : Int32), iv c0] [(.int (c0.toInt8.toInt32)), (.int (0 : Int32)), (.ref a2)]) s1 EF := fun t k => pre8 t (by
   refine XS.aloadN X0.here hx rfl (B d11_26) rfl rfl ?_
   refine XS.iloadN X0.here hx rfl (B d11_27) rfl ?_
   refine XS.iload X0.here hx rfl (B d11_28) rfl ?_
   exact XS.i2b X0.here hx rfl (B d11_30) rfl k)
  obtain ⟨cl10, Ar10, q10, Sz10, M10, H10, G10⟩ := id V2
  have hin10 : ¬ ((0 : Int32) < 0 ∨ cl10.slots.size ≤ ((0 : Int32)).toNatClampNeg) := inb_of Sz10 ⟨by decide, by decide⟩
  obtain ⟨T10, h10, X10, e10, W10, st10⟩ := stB X0 hx hZ e0 Ar10 (j := (0 : Int32)) hin10 (g := (mkF m 31 #[rv a1, iv (0 : Int32), rv a2, iv (0 : Int32), iv (3 : Int32), iv (0 : Int32), iv c0] [(.int (c0.toInt8.toInt32)), (.int (0 : Int32)), (.ref a2)])) rfl rfl (B d11_31)
  rw [own_i2b2] at W10
  have pre11 : Go p e bl T10 (mkF m 32 #[rv a1, iv (0 : Int32), rv a2, iv (0 : Int32), iv (3 : Int32), iv (0 : Int32), iv c0] []) s1 EF := fun t k => pre9 t (st10 t k)
  have O12 : Old Z n0 h10 := O0.wr W10 g_a2
  have Z12 : n0 ≤ h10.size := Nat.le_trans Z0 (Keep.of_wr W10).1
  have K12 : Keep h0 h10 [a2] := (Keep.refl h0 [a2]).wr W10 (Or.inl (List.mem_of_getElem? (i := 0) rfl))
  have V10 : Arv Z h10 a2 k2 .byte (3 : Int32) [(.int (c0.toInt8.toInt32)), (.int (0 : Int32)), (.int (0 : Int32))] (.int (0 : Int32)) := Arv.set Ar10 q10 Sz10 M10 H10 G10 (fits_nar_byte _) W10 0 rfl (Nat.le_of_ble_eq_true rfl)
  have N10 := Fr.snoc X10 N0 g_a2
  have pre13 : Go p e bl T10 (mkF m 7 #[rv a1, iv (1 : Int32), rv a2, iv (1 : Int32), iv (3 : Int32), iv (1 : Int32), iv c0] [(.int (3 : Int32)), (.int (1 : Int32))]) s1 EF := fun t k => pre11 t (by
   refine XS.iinc X10.here hx rfl (B d11_32) rfl (l' := #[rv a1, iv (1 : Int32), rv a2, iv (0 : Int32), iv (3 : Int32), iv (0 : Int32), iv c0]) rfl ?_
   refine XS.iinc X10.here hx rfl (B d11_35) rfl (l' := #[rv a1, iv (1 : Int32), rv a2, iv (1 : Int32), iv (3 : Int32), iv (0 : Int32), iv c0]) rfl ?_
   refine XS.iinc X10.here hx rfl (B d11_38) rfl (l' := #[rv a1, iv (1 : Int32), rv a2, iv (1 : Int32), iv (3 : Int32), iv (1 : Int32), iv c0]) rfl ?_
   refine XS.goto X10.here hx rfl (pc0 := 41) (pc' := 3) rfl (B d11_41) (by decide) (by decide) ?_
   refine XS.iload X10.here hx rfl (B d11_3) rfl ?_
   exact XS.iload X10.here hx rfl (B d11_5) rfl k)
  have pre14 : Go p e bl T10 (mkF m 10 #[rv a1, iv (1 : Int32), rv a2, iv (1 : Int32), iv (3 : Int32), iv (1 : Int32), iv c0] []) s1 EF := fun t k => pre13 t (XS.icmpNo X10.here hx rfl (B d11_7) rfl (tlt (by decide : (1 : Int32) < (3 : Int32))).2.1 k)
  have pre15 : Go p e bl T10 (mkF m 12 #[rv a1, iv (1 : Int32), rv a2, iv (1 : Int32), iv (3 : Int32), iv (1 : Int32), iv c0] [(.int (1 : Int32)), (.ref a1)]) s1 EF := fun t k => pre14 t (by
   refine XS.aloadN X10.here hx rfl (B d11_10) rfl rfl ?_
   exact XS.iloadN X10.here hx rfl (B d11_11) rfl k)
  obtain ⟨cl16, Ar16, q16, Sz16, M16, H16, G16⟩ := id (V1.other W10 ne12)
  have hin16 : ¬ ((1 : Int32) < 0 ∨ cl16.slots.size ≤ ((1 : Int32)).toNatClampNeg) := inb_of Sz16 ⟨by decide, by decide⟩
  have hat16 : cl16.slots[((1 : Int32)).toNatClampNeg]? = some (.int c1) := Has.at H16 hin16 rfl
  have pre17 : Go p e bl T10 (mkF m 20 #[rv a1, iv (1 : Int32), rv a2, iv (1 : Int32), iv (3 : Int32), iv (1 : Int32), iv c1] [(.int (255 : Int32)), (.int c1)]) s1 EF := fun t k => pre15 t (by
   refine X10.caload hx (j := (1 : Int32)) (v := (.int c1)) (by rw [e10]; exact Ar16.1) (State.isArrayOf_alike hZ.alike Ar16.2.1) Ar16.2.2 hin16 hat16 (g := (mkF m 12 #[rv a1, iv (1 : Int32), rv a2, iv (1 : Int32), iv (3 : Int32), iv (1 : Int32), iv c0] [(.int (1 : Int32)), (.ref a1)])) rfl rfl (B d11_12) _ ?_
   refine XS.istore X10.here hx rfl (B d11_13) rfl (l' := #[rv a1, iv (1 : Int32), rv a2, iv (1 : Int32), iv (3 : Int32), iv (1 : Int32), iv c1]) rfl ?_
   refine XS.iload X10.here hx rfl (B d11_15) rfl ?_
   exact XS.sipush X10.here hx rfl (B d11_17) k)
  by_cases hc20' : (255 : Int32) < c1
  · have pre18 : Go p e bl T10 (mkF m 23 #[rv a1, iv (1 : Int32), rv a2, iv (1 : Int32), iv (3 : Int32), iv (1 : Int32), iv c1] []) s1 EF := fun t k => pre17 t (XS.icmpNo X10.here hx rfl (B d11_20) rfl (tlt hc20').2.2.2 k)
    have pre19 : Go p e bl T10 (mkF m 25 #[rv a1, iv (1 : Int32), rv a2, iv (1 : Int32), iv (3 : Int32), iv (1 : Int32), iv c1] [(.int (1 : Int32))]) s1 EF := fun t k => pre18 t (by
     exact XS.iload X10.here hx rfl (B d11_23) rfl k)
    exact fin1 X10 (v := some (.int (1 : Int32))) hrt hlk (wl rfl) (wl rfl) (by rw [e10]; exact Or.inr ⟨_, _, rfl, N10, K12, (by decide), (by decide), rfl, hc20'⟩) (fun fs hr => hEF ▸ pre19 _ (retOut X10 hx Bd.returns rfl (Or.inl ⟨rfl, Or.inl rfl, _, rfl⟩) (B d11_25) hr))
  have pre20 : Go p e bl T10 (mkF m 26 #[rv a1, iv (1 : Int32), rv a2, iv (1 : Int32), iv (3 : Int32), iv (1 : Int32), iv c1] []) s1 EF := fun t k => pre17 t (XS.icmpYes X10.here hx rfl (pc0 := 20) (pc' := 26) rfl (B d11_20) rfl (flt hc20').2.2.2 (by decide) (by decide) k)
  have pre21 : Go p e bl T10 (mkF m 31 #[rv a1, iv (1 : Int32), rv a2, iv (1 : Int32), iv (3 : Int32), iv (1 : Int32), iv c1] [(.int (c1.toInt8.toInt32)), (.int (1 : Int32)), (.ref a2)]) s1 EF := fun t k => pre20 t (by
   refine XS.aloadN X10.here hx rfl (B d11_26) rfl rfl ?_
   refine XS.iloadN X10.here hx rfl (B d11_27) rfl ?_
   refine XS.iload X10.here hx rfl (B d11_28) rfl ?_
   exact XS.i2b X10.here hx rfl (B d11_30) rfl k)
  obtain ⟨cl22, Ar22, q22, Sz22, M22, H22, G22⟩ := id V10
  have hin22 : ¬ ((1 : Int32) < 0 ∨ cl22.slots.size ≤ ((1 : Int32)).toNatClampNeg) := inb_of Sz22 ⟨by decide, by decide⟩
  obtain ⟨T22, h22, X22, e22, W22, st22⟩ := stB X10 hx hZ e10 Ar22 (j := (1 : Int32)) hin22 (g := (mkF m 31 #[rv a1, iv (1 : Int32), rv a2, iv (1 : Int32), iv (3 : Int32), iv (1 : Int32), iv c1] [(.int (c1.toInt8.toInt32)), (.int (1 : Int32)), (.ref a2)])) rfl rfl (B d11_31)
  rw [own_i2b2] at W22
  have pre23 : Go p e bl T22 (mkF m 32 #[rv a1, iv (1 : Int32), rv a2, iv (1 : Int32), iv (3 : Int32), iv (1 : Int32), iv c1] []) s1 EF := fun t k => pre21 t (st22 t k)
  have O24 : Old Z n0 h22 := O12.wr W22 g_a2
  have Z24 : n0 ≤ h22.size := Nat.le_trans Z12 (Keep.of_wr W22).1
  have K24 : Keep h0 h22 [a2] := K12.wr W22 (Or.inl (List.mem_of_getElem? (i := 0) rfl))
  have V22 : Arv Z h22 a2 k2 .byte (3 : Int32) [(.int (c0.toInt8.toInt32)), (.int (c1.toInt8.toInt32)), (.int (0 : Int32))] (.int (0 : Int32)) := Arv.set Ar22 q22 Sz22 M22 H22 G22 (fits_nar_byte _) W22 1 rfl (Nat.le_of_ble_eq_true rfl)
  have N22 := Fr.snoc X22 N10 g_a2
  have pre25 : Go p e bl T22 (mkF m 7 #[rv a1, iv (2 : Int32), rv a2, iv (2 : Int32), iv (3 : Int32), iv (2 : Int32), iv c1] [(.int (3 : Int32)), (.int (2 : Int32))]) s1 EF := fun t k => pre23 t (by
   refine XS.iinc X22.here hx rfl (B d11_32) rfl (l' := #[rv a1, iv (2 : Int32), rv a2, iv (1 : Int32), iv (3 : Int32), iv (1 : Int32), iv c1]) rfl ?_
   refine XS.iinc X22.here hx rfl (B d11_35) rfl (l' := #[rv a1, iv (2 : Int32), rv a2, iv (2 : Int32), iv (3 : Int32), iv (1 : Int32), iv c1]) rfl ?_
   refine XS.iinc X22.here hx rfl (B d11_38) rfl (l' := #[rv a1, iv (2 : Int32), rv a2, iv (2 : Int32), iv (3 : Int32), iv (2 : Int32), iv c1]) rfl ?_
   refine XS.goto X22.here hx rfl (pc0 := 41) (pc' := 3) rfl (B d11_41) (by decide) (by decide) ?_
   refine XS.iload X22.here hx rfl (B d11_3) rfl ?_
   exact XS.iload X22.here hx rfl (B d11_5) rfl k)
  have pre26 : Go p e bl T22 (mkF m 10 #[rv a1, iv (2 : Int32), rv a2, iv (2 : Int32), iv (3 : Int32), iv (2 : Int32), iv c1] []) s1 EF := fun t k => pre25 t (XS.icmpNo X22.here hx rfl (B d11_7) rfl (tlt (by decide : (2 : Int32) < (3 : Int32))).2.1 k)
  have pre27 : Go p e bl T22 (mkF m 12 #[rv a1, iv (2 : Int32), rv a2, iv (2 : Int32), iv (3 : Int32), iv (2 : Int32), iv c1] [(.int (2 : Int32)), (.ref a1)]) s1 EF := fun t k => pre26 t (by
   refine XS.aloadN X22.here hx rfl (B d11_10) rfl rfl ?_
   exact XS.iloadN X22.here hx rfl (B d11_11) rfl k)
  obtain ⟨cl28, Ar28, q28, Sz28, M28, H28, G28⟩ := id ((V1.other W10 ne12).other W22 ne12)
  have hin28 : ¬ ((2 : Int32) < 0 ∨ cl28.slots.size ≤ ((2 : Int32)).toNatClampNeg) := inb_of Sz28 ⟨by decide, by decide⟩
  have hat28 : cl28.slots[((2 : Int32)).toNatClampNeg]? = some (.int c2) := Has.at H28 hin28 rfl
  have pre29 : Go p e bl T22 (mkF m 20 #[rv a1, iv (2 : Int32), rv a2, iv (2 : Int32), iv (3 : Int32), iv (2 : Int32), iv c2] [(.int (255 : Int32)), (.int c2)]) s1 EF := fun t k => pre27 t (by
   refine X22.caload hx (j := (2 : Int32)) (v := (.int c2)) (by rw [e22]; exact Ar28.1) (State.isArrayOf_alike hZ.alike Ar28.2.1) Ar28.2.2 hin28 hat28 (g := (mkF m 12 #[rv a1, iv (2 : Int32), rv a2, iv (2 : Int32), iv (3 : Int32), iv (2 : Int32), iv c1] [(.int (2 : Int32)), (.ref a1)])) rfl rfl (B d11_12) _ ?_
   refine XS.istore X22.here hx rfl (B d11_13) rfl (l' := #[rv a1, iv (2 : Int32), rv a2, iv (2 : Int32), iv (3 : Int32), iv (2 : Int32), iv c2]) rfl ?_
   refine XS.iload X22.here hx rfl (B d11_15) rfl ?_
   exact XS.sipush X22.here hx rfl (B d11_17) k)
  by_cases hc20'' : (255 : Int32) < c2
  · have pre30 : Go p e bl T22 (mkF m 23 #[rv a1, iv (2 : Int32), rv a2, iv (2 : Int32), iv (3 : Int32), iv (2 : Int32), iv c2] []) s1 EF := fun t k => pre29 t (XS.icmpNo X22.here hx rfl (B d11_20) rfl (tlt hc20'').2.2.2 k)
    have pre31 : Go p e bl T22 (mkF m 25 #[rv a1, iv (2 : Int32), rv a2, iv (2 : Int32), iv (3 : Int32), iv (2 : Int32), iv c2] [(.int (2 : Int32))]) s1 EF := fun t k => pre30 t (by
     exact XS.iload X22.here hx rfl (B d11_23) rfl k)
    exact fin1 X22 (v := some (.int (2 : Int32))) hrt hlk (wl rfl) (wl rfl) (by rw [e22]; exact Or.inr ⟨_, _, rfl, N22, K24, (by decide), (by decide), rfl, hc20''⟩) (fun fs hr => hEF ▸ pre31 _ (retOut X22 hx Bd.returns rfl (Or.inl ⟨rfl, Or.inl rfl, _, rfl⟩) (B d11_25) hr))
  have pre32 : Go p e bl T22 (mkF m 26 #[rv a1, iv (2 : Int32), rv a2, iv (2 : Int32), iv (3 : Int32), iv (2 : Int32), iv c2] []) s1 EF := fun t k => pre29 t (XS.icmpYes X22.here hx rfl (pc0 := 20) (pc' := 26) rfl (B d11_20) rfl (flt hc20'').2.2.2 (by decide) (by decide) k)
  have pre33 : Go p e bl T22 (mkF m 31 #[rv a1, iv (2 : Int32), rv a2, iv (2 : Int32), iv (3 : Int32), iv (2 : Int32), iv c2] [(.int (c2.toInt8.toInt32)), (.int (2 : Int32)), (.ref a2)]) s1 EF := fun t k => pre32 t (by
   refine XS.aloadN X22.here hx rfl (B d11_26) rfl rfl ?_
   refine XS.iloadN X22.here hx rfl (B d11_27) rfl ?_
   refine XS.iload X22.here hx rfl (B d11_28) rfl ?_
   exact XS.i2b X22.here hx rfl (B d11_30) rfl k)
  obtain ⟨cl34, Ar34, q34, Sz34, M34, H34, G34⟩ := id V22
  have hin34 : ¬ ((2 : Int32) < 0 ∨ cl34.slots.size ≤ ((2 : Int32)).toNatClampNeg) := inb_of Sz34 ⟨by decide, by decide⟩
  obtain ⟨T34, h34, X34, e34, W34, st34⟩ := stB X22 hx hZ e22 Ar34 (j := (2 : Int32)) hin34 (g := (mkF m 31 #[rv a1, iv (2 : Int32), rv a2, iv (2 : Int32), iv (3 : Int32), iv (2 : Int32), iv c2] [(.int (c2.toInt8.toInt32)), (.int (2 : Int32)), (.ref a2)])) rfl rfl (B d11_31)
  rw [own_i2b2] at W34
  have pre35 : Go p e bl T34 (mkF m 32 #[rv a1, iv (2 : Int32), rv a2, iv (2 : Int32), iv (3 : Int32), iv (2 : Int32), iv c2] []) s1 EF := fun t k => pre33 t (st34 t k)
  have O36 : Old Z n0 h34 := O24.wr W34 g_a2
  have Z36 : n0 ≤ h34.size := Nat.le_trans Z24 (Keep.of_wr W34).1
  have K36 : Keep h0 h34 [a2] := K24.wr W34 (Or.inl (List.mem_of_getElem? (i := 0) rfl))
  have V34 : Arv Z h34 a2 k2 .byte (3 : Int32) [(.int (c0.toInt8.toInt32)), (.int (c1.toInt8.toInt32)), (.int (c2.toInt8.toInt32))] (.int (0 : Int32)) := Arv.set Ar34 q34 Sz34 M34 H34 G34 (fits_nar_byte _) W34 2 rfl (Nat.le_of_ble_eq_true rfl)
  have N34 := Fr.snoc X34 N22 g_a2
  have pre37 : Go p e bl T34 (mkF m 7 #[rv a1, iv (3 : Int32), rv a2, iv (3 : Int32), iv (3 : Int32), iv (3 : Int32), iv c2] [(.int (3 : Int32)), (.int (3 : Int32))]) s1 EF := fun t k => pre35 t (by
   refine XS.iinc X34.here hx rfl (B d11_32) rfl (l' := #[rv a1, iv (3 : Int32), rv a2, iv (2 : Int32), iv (3 : Int32), iv (2 : Int32), iv c2]) rfl ?_
   refine XS.iinc X34.here hx rfl (B d11_35) rfl (l' := #[rv a1, iv (3 : Int32), rv a2, iv (3 : Int32), iv (3 : Int32), iv (2 : Int32), iv c2]) rfl ?_
   refine XS.iinc X34.here hx rfl (B d11_38) rfl (l' := #[rv a1, iv (3 : Int32), rv a2, iv (3 : Int32), iv (3 : Int32), iv (3 : Int32), iv c2]) rfl ?_
   refine XS.goto X34.here hx rfl (pc0 := 41) (pc' := 3) rfl (B d11_41) (by decide) (by decide) ?_
   refine XS.iload X34.here hx rfl (B d11_3) rfl ?_
   exact XS.iload X34.here hx rfl (B d11_5) rfl k)
  have pre38 : Go p e bl T34 (mkF m 44 #[rv a1, iv (3 : Int32), rv a2, iv (3 : Int32), iv (3 : Int32), iv (3 : Int32), iv c2] []) s1 EF := fun t k => pre37 t (XS.icmpYes X34.here hx rfl (pc0 := 7) (pc' := 44) rfl (B d11_7) rfl (flt (by decide : ¬ ((3 : Int32) < (3 : Int32)))).2.1 (by decide) (by decide) k)
  have pre39 : Go p e bl T34 (mkF m 46 #[rv a1, iv (3 : Int32), rv a2, iv (3 : Int32), iv (3 : Int32), iv (3 : Int32), iv c2] [(.int (3 : Int32))]) s1 EF := fun t k => pre38 t (by
   exact XS.iload X34.here hx rfl (B d11_44) rfl k)
  exact fin1 X34 (v := some (.int (3 : Int32))) hrt hlk (wl rfl) (wl rfl) (by rw [e34]; exact Or.inl ⟨rfl, N34, K36, (List.forall_mem_cons.mpr ⟨hc20, (List.forall_mem_cons.mpr ⟨hc20', (List.forall_mem_cons.mpr ⟨hc20'', (fun _ q => nomatch q)⟩)⟩)⟩), V34⟩) (fun fs hr => hEF ▸ pre39 _ (retOut X34 hx Bd.returns rfl (Or.inl ⟨rfl, Or.inl rfl, _, rfl⟩) (B d11_46) hr))
abbrev rKKn3 : Room := { frames := 0, cells := 0, slots := 0, locals := 0 }
theorem efKn3 (m : MethodId)  : entryFrame m #[(.int (3 : Int32))] 1 = mkF m 0 #[iv (3 : Int32)] [] := by first | (simp [entryFrame, mkF, argsToLocals, Value.category]; done) | rfl
def QKn3 (Z : State) (cz : Int32) (fv : Value) (h0 : Heap) (n0 : Nat) (v : Option Value) (h : Heap) (L : List Loc) : Prop := v = some (.int (6 : Int32)) ∧ Fr n0 L ∧ h = h0
set_option maxRecDepth 65536 in
set_option maxHeartbeats 40000000 in
theorem rmKn3 (l : Launch) (Z : State) (a0 : Array Value) (hw : HW a0 Z) (ws : List Jvm.Cond) (cz : Int32) (fv : Value) (h0 : Heap) (n0 : Nat) (Z0 : n0 ≤ h0.size) (O0 : Old Z n0 h0) (J0 : Jd Z cz fv) :
    MF l Z mN12 jdk_52_method_3_code 1 (some .int) ws rKKn3 #[(.int (3 : Int32))] h0 (QKn3 Z cz fv h0 n0) := by
  refine MetFree.of_bodySF (plainFor_of_name pn3) hisR ?_
  intro p e s m args bl meth c s1 Bd hml0 hP hK
  obtain ⟨rfl, hZ, hh⟩ := hP
  have hx := Bd.exec
  have hby := Bd.bytes
  have B := @hb c _ hby
  have hown : s.vm.findClass "java/lang/StringUTF16" = some m.cls := findClass_of_methodNamed Bd.named
  have hlk : meth.locks = false := BodyLoose.notSynchronized Bd
  have hrt : ∀ {v : Option Value}, meth.sig.returnType = none → v = none := fun h => by rw [Bd.returns] at h; cases h
  have X0 : Stand p l e rKKn3 s m #[(.int (3 : Int32))] bl meth c s1 [] 0 0 := Stand.of_body Bd
  have e0 : s1.heap = h0 := by rw [← hh, Bd.state]; rfl
  have N0 := Fr.nil n0
  obtain ⟨EF, hEF⟩ : ∃ f, f = entryFrame m #[(.int (3 : Int32))] 1 := ⟨_, rfl⟩
  have pre0 : Go p e bl s1 (mkF m 0 #[iv (3 : Int32)] []) s1 EF := fun t k => by rw [hEF]; exact castTop (efKn3 m ) k
  have pre1 : Go p e bl s1 (mkF m 1 #[iv (3 : Int32)] [(.int (3 : Int32))]) s1 EF := fun t k => pre0 t (by
   exact XS.iloadN X0.here hx rfl (B d12_0) rfl k)
  have pre2 : Go p e bl s1 (mkF m 12 #[iv (3 : Int32)] []) s1 EF := fun t k => pre1 t (XS.ifYes X0.here hx rfl (pc0 := 1) (pc' := 12) rfl (B d12_1) rfl ((if0 _ _).trans (flt (by decide : ¬ ((3 : Int32) < (0 : Int32)))).2.1) (by decide) (by decide) k)
  have pre3 : Go p e bl s1 (mkF m 15 #[iv (3 : Int32)] [(.int (1073741823 : Int32)), (.int (3 : Int32))]) s1 EF := fun t k => pre2 t (by
   refine XS.iloadN X0.here hx rfl (B d12_12) rfl ?_
   exact X0.ldcInt hx hown (mvT hZ (hw _ (mW 92 rfl))) (g := (mkF m 13 #[iv (3 : Int32)] [(.int (3 : Int32))])) rfl (B d12_13) _ k)
  have pre4 : Go p e bl s1 (mkF m 55 #[iv (3 : Int32)] []) s1 EF := fun t k => pre3 t (XS.icmpYes X0.here hx rfl (pc0 := 15) (pc' := 55) rfl (B d12_15) rfl (tlt (by decide : (3 : Int32) < (1073741823 : Int32))).1 (by decide) (by decide) k)
  have pre5 : Go p e bl s1 (mkF m 58 #[iv (3 : Int32)] [(.int (6 : Int32))]) s1 EF := fun t k => pre4 t (by
   refine XS.iloadN X0.here hx rfl (B d12_55) rfl ?_
   refine XS.iconst X0.here hx rfl (B d12_56) ?_
   exact XS.ishl X0.here hx rfl (B d12_57) rfl k)
  exact fin1 X0 (v := some (.int (6 : Int32))) hrt hlk (wl rfl) (wl rfl) (by rw [e0]; exact ⟨rfl, N0, rfl⟩) (fun fs hr => hEF ▸ pre5 _ (retOut X0 hx Bd.returns rfl (Or.inl ⟨rfl, Or.inl rfl, _, rfl⟩) (B d12_58) hr))
abbrev rKKf3 : Room := { frames := 1, cells := 1, slots := 6, locals := 12 }
theorem efKf3 (m : MethodId)  : entryFrame m #[(.int (3 : Int32))] 1 = mkF m 0 #[iv (3 : Int32)] [] := by first | (simp [entryFrame, mkF, argsToLocals, Value.category]; done) | rfl
def QKf3 (Z : State) (cz : Int32) (fv : Value) (h0 : Heap) (n0 : Nat) (v : Option Value) (h : Heap) (L : List Loc) : Prop := ∃ b k, v = some (.ref b) ∧ Fr n0 L ∧ Keep h0 h [] ∧ h0.size ≤ b ∧ Arv Z h b k .byte (6 : Int32) [(.int (0 : Int32)), (.int (0 : Int32)), (.int (0 : Int32)), (.int (0 : Int32)), (.int (0 : Int32)), (.int (0 : Int32))] (.int (0 : Int32))
set_option maxRecDepth 65536 in
set_option maxHeartbeats 40000000 in
theorem rmKf3 (l : Launch) (Z : State) (a0 : Array Value) (hw : HW a0 Z) (ws : List Jvm.Cond) (cz : Int32) (fv : Value) (h0 : Heap) (n0 : Nat) (Z0 : n0 ≤ h0.size) (O0 : Old Z n0 h0) (J0 : Jd Z cz fv) :
    MF l Z mN13 jdk_52_method_2_code 1 (some (.array .byte)) ws rKKf3 #[(.int (3 : Int32))] h0 (QKf3 Z cz fv h0 n0) := by
  refine MetFree.of_bodySF (plainFor_of_name pn3) hisR ?_
  intro p e s m args bl meth c s1 Bd hml0 hP hK
  obtain ⟨rfl, hZ, hh⟩ := hP
  have hx := Bd.exec
  have hby := Bd.bytes
  have B := @hb c _ hby
  have hM := fun {n : Nat} (h : n = 1) => h.trans hml0.symm
  have hown : s.vm.findClass "java/lang/StringUTF16" = some m.cls := findClass_of_methodNamed Bd.named
  have hlk : meth.locks = false := BodyLoose.notSynchronized Bd
  have hrt : ∀ {v : Option Value}, meth.sig.returnType = none → v = none := fun h => by rw [Bd.returns] at h; cases h
  have X0 : Stand p l e rKKf3 s m #[(.int (3 : Int32))] bl meth c s1 [] 0 0 := Stand.of_body Bd
  have e0 : s1.heap = h0 := by rw [← hh, Bd.state]; rfl
  have N0 := Fr.nil n0
  obtain ⟨EF, hEF⟩ : ∃ f, f = entryFrame m #[(.int (3 : Int32))] 1 := ⟨_, rfl⟩
  have pre0 : Go p e bl s1 (mkF m 0 #[iv (3 : Int32)] []) s1 EF := fun t k => by rw [hEF]; exact castTop (efKf3 m ) k
  have pre1 : Go p e bl s1 (mkF m 1 #[iv (3 : Int32)] [(.int (3 : Int32))]) s1 EF := fun t k => pre0 t (by
   exact XS.iloadN X0.here hx rfl (B d13_0) rfl k)
  obtain ⟨_, _, ⟨T2, L2, k2, n2⟩, -, X2, ⟨Lc2, hQ2, l2, y2, z2⟩, st2⟩ := Jvm.LawKit.callS X0 hx (y := mN12) hown (mvT hZ (hw _ (mW 89 rfl))) (mvT hZ (hw _ (mW 90 rfl))) (mvT hZ (hw _ (mW 45 rfl))) (mvT hZ (hw _ (mW 91 rfl))) (by decide) (backOf (W := 0) (rmKn3 l Z a0 hw []  cz fv  h0 n0 Z0 O0 J0 ) hZ (hw _ (mW 91 rfl)) (hw _ (mW 45 rfl)) (by decide) (by decide)) (g := (mkF m 1 #[iv (3 : Int32)] [(.int (3 : Int32))])) rfl (hM rfl) (argsL := [(.int (3 : Int32))]) (rest := []) (lenOf pd7 rfl) rfl (Nat.le_of_eq rfl) (B d13_1) (fun _ _ => ⟨rfl, e0, wl rfl, wl rfl⟩)
  dsimp only [Pt.U, Pt.locs, Pt.cells, Pt.slots] at X2 l2 y2 z2 st2 hQ2
  subst l2 y2 z2
  obtain ⟨rfl, N2q, hq2⟩ := hQ2
  have N2 := Fr.app N0 N2q
  have pre3 : Go p e bl T2 (mkF m 4 #[iv (3 : Int32)] [(.int (6 : Int32))]) s1 EF := fun t k => pre1 t (st2 t k)
  have e2 : T2.heap = h0 := hq2
  obtain ⟨T4, h4, k4, X4, e4, Et4, A4, st4⟩ := newP X2 hx hZ (hw _ (mW 21 rfl)) e2 (g := (mkF m 4 #[iv (3 : Int32)] [(.int (6 : Int32))])) rfl (B d13_4) rfl (by decide) (cap := 6) (by decide) (by decide) (by decide) (by decide)
  obtain ⟨b4, g4⟩ : ∃ z, z = h0.size := ⟨_, rfl⟩
  rw [← g4] at A4 st4
  have g_b4 : n0 ≤ b4 := Nat.le_trans Z0 (Nat.le_of_eq g4.symm)
  have sz_b4 : h0.size ≤ b4 := Nat.le_trans (Keep.refl h0 []).1 (Nat.le_of_eq g4.symm)
  have pre5 : Go p e bl T4 (mkF m 6 #[iv (3 : Int32)] [(.ref b4)]) s1 EF := fun t k => pre3 t (st4 t k)
  have O6 : Old Z n0 h4 := O0.ext Et4
  have Z6 : n0 ≤ h4.size := Nat.le_trans Z0 Et4.1
  have K6 : Keep h0 h4 [] := (Keep.refl h0 []).ext Et4
  have V4 : Arv Z h4 b4 k4 .byte (6 : Int32) [(.int (0 : Int32)), (.int (0 : Int32)), (.int (0 : Int32)), (.int (0 : Int32)), (.int (0 : Int32)), (.int (0 : Int32))] (.int (0 : Int32)) := (Arv.new A4 (by decide)).pad (pad_rep [] (.int (0 : Int32)) 6)
  exact fin1 X4 (v := some (.ref b4)) hrt hlk (wl rfl) (wl rfl) (by rw [e4]; exact ⟨_, _, rfl, N2, K6, sz_b4, V4⟩) (fun fs hr => hEF ▸ pre5 _ (retOut X4 hx Bd.returns rfl (Or.inr (Or.inr (Or.inr (Or.inr ⟨rfl, rfl, rfl⟩)))) (B d13_6) hr))
abbrev rKKp2 : Room := { frames := 0, cells := 0, slots := 0, locals := 0 }
theorem efKp2 (m : MethodId) (a1 : Addr) (p2 : Int32) : entryFrame m #[(.ref a1), (.int (2 : Int32)), (.int p2)] 3 = mkF m 0 #[rv a1, iv (2 : Int32), iv p2] [] := by first | (simp [entryFrame, mkF, argsToLocals, Value.category]; done) | rfl
def QKp2 (Z : State) (a1 : Addr) (p2 : Int32) (cz : Int32) (fv : Value) (k : ClassId) (z : Int32) (vs : List Value) (h0 : Heap) (n0 : Nat) (v : Option Value) (h : Heap) (L : List Loc) : Prop := v = none ∧ Fr n0 L ∧ Keep h0 h [a1] ∧ Arv Z h a1 k .byte z ((vs.set 4 (.int (lo8 p2))).set 5 (.int (hi8 p2))) (.int 0)
set_option maxRecDepth 65536 in
set_option maxHeartbeats 40000000 in
theorem rmKp2 (l : Launch) (Z : State) (a0 : Array Value) (hw : HW a0 Z) (ws : List Jvm.Cond) (a1 : Addr) (p2 : Int32) (cz : Int32) (fv : Value) (k : ClassId) (z : Int32) (vs : List Value) (h0 : Heap) (n0 : Nat) (Z0 : n0 ≤ h0.size) (O0 : Old Z n0 h0) (J0 : Jd Z cz fv) (VV : Arv Z h0 a1 k .byte z vs (.int 0)) (g_a1 : n0 ≤ a1) (hz0 : (4 : Int32) < z) (hz1 : (5 : Int32) < z) (hln : 5 < vs.length) :
    MF l Z mN14 jdk_52_method_4_code 3 none ws rKKp2 #[(.ref a1), (.int (2 : Int32)), (.int p2)] h0 (QKp2 Z a1 p2 cz fv k z vs h0 n0) := by
  refine MetFree.of_bodySF (plainFor_of_name pn3) hisR ?_
  intro p e s m args bl meth c s1 Bd hml0 hP hK
  obtain ⟨rfl, hZ, hh⟩ := hP
  have hx := Bd.exec
  have hby := Bd.bytes
  have B := @hb c _ hby
  have hown : s.vm.findClass "java/lang/StringUTF16" = some m.cls := findClass_of_methodNamed Bd.named
  have hlk : meth.locks = false := BodyLoose.notSynchronized Bd
  have X0 : Stand p l e rKKp2 s m #[(.ref a1), (.int (2 : Int32)), (.int p2)] bl meth c s1 [] 0 0 := Stand.of_body Bd
  have e0 : s1.heap = h0 := by rw [← hh, Bd.state]; rfl
  have N0 := Fr.nil n0
  obtain ⟨EF, hEF⟩ : ∃ f, f = entryFrame m #[(.ref a1), (.int (2 : Int32)), (.int p2)] 3 := ⟨_, rfl⟩
  have pre0 : Go p e bl s1 (mkF m 0 #[rv a1, iv (2 : Int32), iv p2] []) s1 EF := fun t k => by rw [hEF]; exact castTop (efKp2 m a1 p2) k
  obtain ⟨T1, X1, e1, st1⟩ := getS2 X0 hx hZ hown (host := "") (Or.inl (hw _ (mW 96 rfl))) Via.refl e0 (J0.2.2.2.1.ext O0.2) (g := (mkF m 0 #[rv a1, iv (2 : Int32), iv p2] [])) rfl (B d14_0)
  have pre2 : Go p e bl T1 (mkF m 3 #[rv a1, iv (2 : Int32), iv p2] [(.int (1 : Int32))]) s1 EF := fun t k => pre0 t (st1 t k)
  have pre3 : Go p e bl T1 (mkF m 28 #[rv a1, iv (2 : Int32), iv p2] []) s1 EF := fun t k => pre2 t (XS.ifYes X1.here hx rfl (pc0 := 3) (pc' := 28) rfl (B d14_3) rfl ((if0 _ _).trans (feq (by decide : ¬ ((1 : Int32) = (0 : Int32)))).2) (by decide) (by decide) k)
  have pre4 : Go p e bl T1 (mkF m 38 #[rv a1, iv (5 : Int32), iv p2] [(.int p2), (.int (4 : Int32)), (.ref a1)]) s1 EF := fun t k => pre3 t (by
   refine XS.iloadN X1.here hx rfl (B d14_28) rfl ?_
   refine XS.iconst X1.here hx rfl (B d14_29) ?_
   refine XS.ishl X1.here hx rfl (B d14_30) rfl ?_
   refine XS.istoreN X1.here hx rfl (B d14_31) rfl (l' := #[rv a1, iv (4 : Int32), iv p2]) rfl ?_
   refine XS.aloadN X1.here hx rfl (B d14_32) rfl rfl ?_
   refine XS.iloadN X1.here hx rfl (B d14_33) rfl ?_
   refine XS.iinc X1.here hx rfl (B d14_34) rfl (l' := #[rv a1, iv (5 : Int32), iv p2]) rfl ?_
   exact XS.iloadN X1.here hx rfl (B d14_37) rfl k)
  obtain ⟨T5, X5, e5, st5⟩ := getS2 X1 hx hZ hown (host := "") (Or.inl (hw _ (mW 97 rfl))) Via.refl e1 (J0.2.2.2.2.1.ext O0.2) (g := (mkF m 38 #[rv a1, iv (5 : Int32), iv p2] [(.int p2), (.int (4 : Int32)), (.ref a1)])) rfl (B d14_38)
  have pre6 : Go p e bl T5 (mkF m 41 #[rv a1, iv (5 : Int32), iv p2] [(.int (0 : Int32)), (.int p2), (.int (4 : Int32)), (.ref a1)]) s1 EF := fun t k => pre4 t (st5 t k)
  have pre7 : Go p e bl T5 (mkF m 43 #[rv a1, iv (5 : Int32), iv p2] [(.int ((p2 >>> ((0 : Int32) &&& 31)).toInt8.toInt32)), (.int (4 : Int32)), (.ref a1)]) s1 EF := fun t k => pre6 t (by
   refine XS.ishr X5.here hx rfl (B d14_41) rfl ?_
   exact XS.i2b X5.here hx rfl (B d14_42) rfl k)
  obtain ⟨cl8, Ar8, q8, Sz8, M8, H8, G8⟩ := id VV
  have hin8 : ¬ ((4 : Int32) < 0 ∨ cl8.slots.size ≤ ((4 : Int32)).toNatClampNeg) := inb_of Sz8 ⟨by decide, hz0⟩
  obtain ⟨T8, h8, X8, e8, W8, st8⟩ := stB X5 hx hZ e5 Ar8 (j := (4 : Int32)) hin8 (g := (mkF m 43 #[rv a1, iv (5 : Int32), iv p2] [(.int ((p2 >>> ((0 : Int32) &&& 31)).toInt8.toInt32)), (.int (4 : Int32)), (.ref a1)])) rfl rfl (B d14_43)
  rw [own_i2b2] at W8
  have pre9 : Go p e bl T8 (mkF m 44 #[rv a1, iv (5 : Int32), iv p2] []) s1 EF := fun t k => pre7 t (st8 t k)
  have O10 : Old Z n0 h8 := O0.wr W8 g_a1
  have Z10 : n0 ≤ h8.size := Nat.le_trans Z0 (Keep.of_wr W8).1
  have K10 : Keep h0 h8 [a1] := (Keep.refl h0 [a1]).wr W8 (Or.inl (List.mem_of_getElem? (i := 0) rfl))
  have V8 : Arv Z h8 a1 k .byte z (vs.set 4 (.int ((p2 >>> ((0 : Int32) &&& 31)).toInt8.toInt32))) (.int (0 : Int32)) := Arv.set Ar8 q8 Sz8 M8 H8 G8 (fits_nar_byte _) W8 4 rfl (by first | (simp only [List.length_set]; omega) | omega)
  have N8 := Fr.snoc X8 N0 g_a1
  have pre11 : Go p e bl T8 (mkF m 47 #[rv a1, iv (5 : Int32), iv p2] [(.int p2), (.int (5 : Int32)), (.ref a1)]) s1 EF := fun t k => pre9 t (by
   refine XS.aloadN X8.here hx rfl (B d14_44) rfl rfl ?_
   refine XS.iloadN X8.here hx rfl (B d14_45) rfl ?_
   exact XS.iloadN X8.here hx rfl (B d14_46) rfl k)
  obtain ⟨T12, X12, e12, st12⟩ := getS2 X8 hx hZ hown (host := "") (Or.inl (hw _ (mW 98 rfl))) Via.refl e8 (J0.2.2.2.2.2.1.ext O10.2) (g := (mkF m 47 #[rv a1, iv (5 : Int32), iv p2] [(.int p2), (.int (5 : Int32)), (.ref a1)])) rfl (B d14_47)
  have pre13 : Go p e bl T12 (mkF m 50 #[rv a1, iv (5 : Int32), iv p2] [(.int (8 : Int32)), (.int p2), (.int (5 : Int32)), (.ref a1)]) s1 EF := fun t k => pre11 t (st12 t k)
  have pre14 : Go p e bl T12 (mkF m 52 #[rv a1, iv (5 : Int32), iv p2] [(.int ((p2 >>> ((8 : Int32) &&& 31)).toInt8.toInt32)), (.int (5 : Int32)), (.ref a1)]) s1 EF := fun t k => pre13 t (by
   refine XS.ishr X12.here hx rfl (B d14_50) rfl ?_
   exact XS.i2b X12.here hx rfl (B d14_51) rfl k)
  obtain ⟨cl15, Ar15, q15, Sz15, M15, H15, G15⟩ := id V8
  have hin15 : ¬ ((5 : Int32) < 0 ∨ cl15.slots.size ≤ ((5 : Int32)).toNatClampNeg) := inb_of Sz15 ⟨by decide, hz1⟩
  obtain ⟨T15, h15, X15, e15, W15, st15⟩ := stB X12 hx hZ e12 Ar15 (j := (5 : Int32)) hin15 (g := (mkF m 52 #[rv a1, iv (5 : Int32), iv p2] [(.int ((p2 >>> ((8 : Int32) &&& 31)).toInt8.toInt32)), (.int (5 : Int32)), (.ref a1)])) rfl rfl (B d14_52)
  rw [own_i2b2] at W15
  have pre16 : Go p e bl T15 (mkF m 53 #[rv a1, iv (5 : Int32), iv p2] []) s1 EF := fun t k => pre14 t (st15 t k)
  have O17 : Old Z n0 h15 := O10.wr W15 g_a1
  have Z17 : n0 ≤ h15.size := Nat.le_trans Z10 (Keep.of_wr W15).1
  have K17 : Keep h0 h15 [a1] := K10.wr W15 (Or.inl (List.mem_of_getElem? (i := 0) rfl))
  have V15 : Arv Z h15 a1 k .byte z ((vs.set 4 (.int ((p2 >>> ((0 : Int32) &&& 31)).toInt8.toInt32))).set 5 (.int ((p2 >>> ((8 : Int32) &&& 31)).toInt8.toInt32))) (.int (0 : Int32)) := Arv.set Ar15 q15 Sz15 M15 H15 G15 (fits_nar_byte _) W15 5 rfl (by first | (simp only [List.length_set]; omega) | omega)
  have N15 := Fr.snoc X15 N8 g_a1
  exact fin1 X15 (v := none) (fun _ => rfl) hlk (wl rfl) (wl rfl) (by rw [e15]; exact ⟨rfl, N15, K17, V15⟩) (fun fs hr => hEF ▸ pre16 _ (X15.returnOut hx Bd.returns (B d14_53) hr))
abbrev rKKt3 : Room := { frames := 2, cells := 1, slots := 6, locals := 24 }
theorem efKt3 (m : MethodId) (a1 : Addr) : entryFrame m #[(.ref a1), (.int (0 : Int32)), (.int (3 : Int32))] 5 = mkF m 0 #[rv a1, iv (0 : Int32), iv (3 : Int32), .unset, .unset] [] := by first | (simp [entryFrame, mkF, argsToLocals, Value.category]; done) | rfl
def QKt3 (Z : State) (a1 : Addr) (cz : Int32) (fv : Value) (k1 : ClassId) (c0 : Int32) (c1 : Int32) (c2 : Int32) (h0 : Heap) (n0 : Nat) (v : Option Value) (h : Heap) (L : List Loc) : Prop := ∃ b k, v = some (.ref b) ∧ Fr n0 L ∧ Keep h0 h [] ∧ h0.size ≤ b ∧ Arv Z h b k .byte (6 : Int32) [(.int (lo8 c0)), (.int (hi8 c0)), (.int (lo8 c1)), (.int (hi8 c1)), (.int (lo8 c2)), (.int (hi8 c2))] (.int (0 : Int32))
set_option maxRecDepth 65536 in
set_option maxHeartbeats 40000000 in
theorem rmKt3 (l : Launch) (Z : State) (a0 : Array Value) (hw : HW a0 Z) (ws : List Jvm.Cond) (a1 : Addr) (cz : Int32) (fv : Value) (k1 : ClassId) (c0 : Int32) (c1 : Int32) (c2 : Int32) (h0 : Heap) (n0 : Nat) (Z0 : n0 ≤ h0.size) (O0 : Old Z n0 h0) (J0 : Jd Z cz fv) (V1 : Arv Z h0 a1 k1 .char (3 : Int32) [(.int c0), (.int c1), (.int c2)] (.int (0 : Int32))) :
    MF l Z mN15 jdk_52_method_14_code 5 (some (.array .byte)) ws rKKt3 #[(.ref a1), (.int (0 : Int32)), (.int (3 : Int32))] h0 (QKt3 Z a1 cz fv k1 c0 c1 c2 h0 n0) := by
  refine MetFree.of_bodySF (plainFor_of_name pn3) hisR ?_
  intro p e s m args bl meth c s1 Bd hml0 hP hK
  obtain ⟨rfl, hZ, hh⟩ := hP
  have hx := Bd.exec
  have hby := Bd.bytes
  have B := @hb c _ hby
  have hM := fun {n : Nat} (h : n = 5) => h.trans hml0.symm
  have hown : s.vm.findClass "java/lang/StringUTF16" = some m.cls := findClass_of_methodNamed Bd.named
  have hlk : meth.locks = false := BodyLoose.notSynchronized Bd
  have hrt : ∀ {v : Option Value}, meth.sig.returnType = none → v = none := fun h => by rw [Bd.returns] at h; cases h
  have X0 : Stand p l e rKKt3 s m #[(.ref a1), (.int (0 : Int32)), (.int (3 : Int32))] bl meth c s1 [] 0 0 := Stand.of_body Bd
  have e0 : s1.heap = h0 := by rw [← hh, Bd.state]; rfl
  have N0 := Fr.nil n0
  obtain ⟨EF, hEF⟩ : ∃ f, f = entryFrame m #[(.ref a1), (.int (0 : Int32)), (.int (3 : Int32))] 5 := ⟨_, rfl⟩
  have pre0 : Go p e bl s1 (mkF m 0 #[rv a1, iv (0 : Int32), iv (3 : Int32), .unset, .unset] []) s1 EF := fun t k => by rw [hEF]; exact castTop (efKt3 m a1) k
  have pre1 : Go p e bl s1 (mkF m 1 #[rv a1, iv (0 : Int32), iv (3 : Int32), .unset, .unset] [(.int (3 : Int32))]) s1 EF := fun t k => pre0 t (by
   exact XS.iloadN X0.here hx rfl (B d15_0) rfl k)
  obtain ⟨_, _, ⟨T2, L2, k2, n2⟩, -, X2, ⟨Lc2, hQ2, l2, y2, z2⟩, st2⟩ := Jvm.LawKit.callS X0 hx (y := mN13) hown (mvT hZ (hw _ (mW 86 rfl))) (mvT hZ (hw _ (mW 87 rfl))) (mvT hZ (hw _ (mW 45 rfl))) (mvT hZ (hw _ (mW 88 rfl))) (by decide) (backOf (W := 0) (rmKf3 l Z a0 hw []  cz fv  h0 n0 Z0 O0 J0 ) hZ (hw _ (mW 88 rfl)) (hw _ (mW 45 rfl)) (by decide) (by decide)) (g := (mkF m 1 #[rv a1, iv (0 : Int32), iv (3 : Int32), .unset, .unset] [(.int (3 : Int32))])) rfl (hM rfl) (argsL := [(.int (3 : Int32))]) (rest := []) (lenOf pd8 rfl) rfl (Nat.le_of_eq rfl) (B d15_1) (fun _ _ => ⟨rfl, e0, wl rfl, wl rfl⟩)
  dsimp only [Pt.U, Pt.locs, Pt.cells, Pt.slots] at X2 l2 y2 z2 st2 hQ2
  subst l2 y2 z2
  obtain ⟨bt, kb2, rfl, N2q, K2, hsz2, VB2⟩ := hQ2
  have N2 := Fr.app N0 N2q
  have pre3 : Go p e bl T2 (mkF m 4 #[rv a1, iv (0 : Int32), iv (3 : Int32), .unset, .unset] [(.ref bt)]) s1 EF := fun t k => pre1 t (st2 t k)
  have O4 : Old Z n0 T2.heap := O0.keep K2 all0
  have Z4 : n0 ≤ T2.heap.size := Nat.le_trans Z0 K2.1
  have K4 : Keep h0 T2.heap [] := (Keep.refl h0 []).trans K2 all0
  have g_bt : n0 ≤ bt := Nat.le_trans Z0 hsz2
  have sz_bt : h0.size ≤ bt := Nat.le_trans (Keep.refl h0 []).1 hsz2
  have ne_a1_bt : a1 ≠ bt := Nat.ne_of_lt (Nat.lt_of_lt_of_le V1.lt hsz2)
  have pre5 : Go p e bl T2 (mkF m 11 #[rv a1, iv (0 : Int32), iv (3 : Int32), rv bt, iv (0 : Int32)] [(.int (3 : Int32)), (.int (0 : Int32))]) s1 EF := fun t k => pre3 t (by
   refine XS.astoreN X2.here hx rfl (B d15_4) rfl rfl (l' := #[rv a1, iv (0 : Int32), iv (3 : Int32), rv bt, .unset]) rfl ?_
   refine XS.iconst X2.here hx rfl (B d15_5) ?_
   refine XS.istore X2.here hx rfl (B d15_6) rfl (l' := #[rv a1, iv (0 : Int32), iv (3 : Int32), rv bt, iv (0 : Int32)]) rfl ?_
   refine XS.iload X2.here hx rfl (B d15_8) rfl ?_
   exact XS.iloadN X2.here hx rfl (B d15_10) rfl k)
  have pre6 : Go p e bl T2 (mkF m 14 #[rv a1, iv (0 : Int32), iv (3 : Int32), rv bt, iv (0 : Int32)] []) s1 EF := fun t k => pre5 t (XS.icmpNo X2.here hx rfl (B d15_11) rfl (tlt (by decide : (0 : Int32) < (3 : Int32))).2.1 k)
  have pre7 : Go p e bl T2 (mkF m 19 #[rv a1, iv (0 : Int32), iv (3 : Int32), rv bt, iv (0 : Int32)] [(.int (0 : Int32)), (.ref a1), (.int (0 : Int32)), (.ref bt)]) s1 EF := fun t k => pre6 t (by
   refine XS.aloadN X2.here hx rfl (B d15_14) rfl rfl ?_
   refine XS.iload X2.here hx rfl (B d15_15) rfl ?_
   refine XS.aloadN X2.here hx rfl (B d15_17) rfl rfl ?_
   exact XS.iloadN X2.here hx rfl (B d15_18) rfl k)
  obtain ⟨cl8, Ar8, q8, Sz8, M8, H8, G8⟩ := id (V1.keep K2 nin0)
  have hin8 : ¬ ((0 : Int32) < 0 ∨ cl8.slots.size ≤ ((0 : Int32)).toNatClampNeg) := inb_of Sz8 ⟨by decide, by decide⟩
  have hat8 : cl8.slots[((0 : Int32)).toNatClampNeg]? = some (.int c0) := Has.at H8 hin8 rfl
  have pre9 : Go p e bl T2 (mkF m 20 #[rv a1, iv (0 : Int32), iv (3 : Int32), rv bt, iv (0 : Int32)] [(.int c0), (.int (0 : Int32)), (.ref bt)]) s1 EF := fun t k => pre7 t (by
   exact X2.caload hx (j := (0 : Int32)) (v := (.int c0)) Ar8.1 (State.isArrayOf_alike hZ.alike Ar8.2.1) Ar8.2.2 hin8 hat8 (g := (mkF m 19 #[rv a1, iv (0 : Int32), iv (3 : Int32), rv bt, iv (0 : Int32)] [(.int (0 : Int32)), (.ref a1), (.int (0 : Int32)), (.ref bt)])) rfl rfl (B d15_19) _ k)
  obtain ⟨_, _, ⟨T10, L10, k10, n10⟩, -, X10, ⟨Lc10, hQ10, l10, y10, z10⟩, st10⟩ := Jvm.LawKit.callS X2 hx (y := mN14) hown (mvT hZ (hw _ (mW 93 rfl))) (mvT hZ (hw _ (mW 94 rfl))) (mvT hZ (hw _ (mW 45 rfl))) (mvT hZ (hw _ (mW 95 rfl))) (by decide) (backOf (W := 0) (rmKp0 l Z a0 hw [] bt c0 cz fv kb2 (6 : Int32) _ T2.heap n0 Z4 O4 J0 VB2 g_bt (by decide) (by decide) (Nat.le_of_ble_eq_true rfl)) hZ (hw _ (mW 95 rfl)) (hw _ (mW 45 rfl)) (by decide) (by decide)) (g := (mkF m 20 #[rv a1, iv (0 : Int32), iv (3 : Int32), rv bt, iv (0 : Int32)] [(.int c0), (.int (0 : Int32)), (.ref bt)])) rfl (hM rfl) (argsL := [(.ref bt), (.int (0 : Int32)), (.int c0)]) (rest := []) (lenOf pd9 rfl) rfl (Nat.le_of_eq rfl) (B d15_20) (fun _ _ => ⟨rfl, rfl, wl rfl, wl rfl⟩)
  dsimp only [Pt.U, Pt.locs, Pt.cells, Pt.slots] at X10 l10 y10 z10 st10 hQ10
  subst l10 y10 z10
  obtain ⟨rfl, N10q, K10, VQ10⟩ := hQ10
  have N10 := Fr.app N2 N10q
  have pre11 : Go p e bl T10 (mkF m 23 #[rv a1, iv (0 : Int32), iv (3 : Int32), rv bt, iv (0 : Int32)] []) s1 EF := fun t k => pre9 t (st10 t k)
  have O12 : Old Z n0 T10.heap := O4.keep K10 (allS g_bt all0)
  have Z12 : n0 ≤ T10.heap.size := Nat.le_trans Z4 K10.1
  have K12 : Keep h0 T10.heap [] := K4.trans K10 (allS (Or.inr sz_bt) all0)
  have VP10 : Arv Z T10.heap bt kb2 .byte (6 : Int32) [(.int (lo8 c0)), (.int (hi8 c0)), (.int (0 : Int32)), (.int (0 : Int32)), (.int (0 : Int32)), (.int (0 : Int32))] (.int (0 : Int32)) := VQ10
  have pre13 : Go p e bl T10 (mkF m 11 #[rv a1, iv (1 : Int32), iv (3 : Int32), rv bt, iv (1 : Int32)] [(.int (3 : Int32)), (.int (1 : Int32))]) s1 EF := fun t k => pre11 t (by
   refine XS.iinc X10.here hx rfl (B d15_23) rfl (l' := #[rv a1, iv (1 : Int32), iv (3 : Int32), rv bt, iv (0 : Int32)]) rfl ?_
   refine XS.iinc X10.here hx rfl (B d15_26) rfl (l' := #[rv a1, iv (1 : Int32), iv (3 : Int32), rv bt, iv (1 : Int32)]) rfl ?_
   refine XS.goto X10.here hx rfl (pc0 := 29) (pc' := 8) rfl (B d15_29) (by decide) (by decide) ?_
   refine XS.iload X10.here hx rfl (B d15_8) rfl ?_
   exact XS.iloadN X10.here hx rfl (B d15_10) rfl k)
  have pre14 : Go p e bl T10 (mkF m 14 #[rv a1, iv (1 : Int32), iv (3 : Int32), rv bt, iv (1 : Int32)] []) s1 EF := fun t k => pre13 t (XS.icmpNo X10.here hx rfl (B d15_11) rfl (tlt (by decide : (1 : Int32) < (3 : Int32))).2.1 k)
  have pre15 : Go p e bl T10 (mkF m 19 #[rv a1, iv (1 : Int32), iv (3 : Int32), rv bt, iv (1 : Int32)] [(.int (1 : Int32)), (.ref a1), (.int (1 : Int32)), (.ref bt)]) s1 EF := fun t k => pre14 t (by
   refine XS.aloadN X10.here hx rfl (B d15_14) rfl rfl ?_
   refine XS.iload X10.here hx rfl (B d15_15) rfl ?_
   refine XS.aloadN X10.here hx rfl (B d15_17) rfl rfl ?_
   exact XS.iloadN X10.here hx rfl (B d15_18) rfl k)
  obtain ⟨cl16, Ar16, q16, Sz16, M16, H16, G16⟩ := id ((V1.keep K2 nin0).keep K10 (ninS ne_a1_bt nin0))
  have hin16 : ¬ ((1 : Int32) < 0 ∨ cl16.slots.size ≤ ((1 : Int32)).toNatClampNeg) := inb_of Sz16 ⟨by decide, by decide⟩
  have hat16 : cl16.slots[((1 : Int32)).toNatClampNeg]? = some (.int c1) := Has.at H16 hin16 rfl
  have pre17 : Go p e bl T10 (mkF m 20 #[rv a1, iv (1 : Int32), iv (3 : Int32), rv bt, iv (1 : Int32)] [(.int c1), (.int (1 : Int32)), (.ref bt)]) s1 EF := fun t k => pre15 t (by
   exact X10.caload hx (j := (1 : Int32)) (v := (.int c1)) Ar16.1 (State.isArrayOf_alike hZ.alike Ar16.2.1) Ar16.2.2 hin16 hat16 (g := (mkF m 19 #[rv a1, iv (1 : Int32), iv (3 : Int32), rv bt, iv (1 : Int32)] [(.int (1 : Int32)), (.ref a1), (.int (1 : Int32)), (.ref bt)])) rfl rfl (B d15_19) _ k)
  obtain ⟨_, _, ⟨T18, L18, k18, n18⟩, -, X18, ⟨Lc18, hQ18, l18, y18, z18⟩, st18⟩ := Jvm.LawKit.callS X10 hx (y := mN14) hown (mvT hZ (hw _ (mW 93 rfl))) (mvT hZ (hw _ (mW 94 rfl))) (mvT hZ (hw _ (mW 45 rfl))) (mvT hZ (hw _ (mW 95 rfl))) (by decide) (backOf (W := 0) (rmKp1 l Z a0 hw [] bt c1 cz fv kb2 (6 : Int32) _ T10.heap n0 Z12 O12 J0 VP10 g_bt (by decide) (by decide) (Nat.le_of_ble_eq_true rfl)) hZ (hw _ (mW 95 rfl)) (hw _ (mW 45 rfl)) (by decide) (by decide)) (g := (mkF m 20 #[rv a1, iv (1 : Int32), iv (3 : Int32), rv bt, iv (1 : Int32)] [(.int c1), (.int (1 : Int32)), (.ref bt)])) rfl (hM rfl) (argsL := [(.ref bt), (.int (1 : Int32)), (.int c1)]) (rest := []) (lenOf pd9 rfl) rfl (Nat.le_of_eq rfl) (B d15_20) (fun _ _ => ⟨rfl, rfl, wl rfl, wl rfl⟩)
  dsimp only [Pt.U, Pt.locs, Pt.cells, Pt.slots] at X18 l18 y18 z18 st18 hQ18
  subst l18 y18 z18
  obtain ⟨rfl, N18q, K18, VQ18⟩ := hQ18
  have N18 := Fr.app N10 N18q
  have pre19 : Go p e bl T18 (mkF m 23 #[rv a1, iv (1 : Int32), iv (3 : Int32), rv bt, iv (1 : Int32)] []) s1 EF := fun t k => pre17 t (st18 t k)
  have O20 : Old Z n0 T18.heap := O12.keep K18 (allS g_bt all0)
  have Z20 : n0 ≤ T18.heap.size := Nat.le_trans Z12 K18.1
  have K20 : Keep h0 T18.heap [] := K12.trans K18 (allS (Or.inr sz_bt) all0)
  have VP18 : Arv Z T18.heap bt kb2 .byte (6 : Int32) [(.int (lo8 c0)), (.int (hi8 c0)), (.int (lo8 c1)), (.int (hi8 c1)), (.int (0 : Int32)), (.int (0 : Int32))] (.int (0 : Int32)) := VQ18
  have pre21 : Go p e bl T18 (mkF m 11 #[rv a1, iv (2 : Int32), iv (3 : Int32), rv bt, iv (2 : Int32)] [(.int (3 : Int32)), (.int (2 : Int32))]) s1 EF := fun t k => pre19 t (by
   refine XS.iinc X18.here hx rfl (B d15_23) rfl (l' := #[rv a1, iv (2 : Int32), iv (3 : Int32), rv bt, iv (1 : Int32)]) rfl ?_
   refine XS.iinc X18.here hx rfl (B d15_26) rfl (l' := #[rv a1, iv (2 : Int32), iv (3 : Int32), rv bt, iv (2 : Int32)]) rfl ?_
   refine XS.goto X18.here hx rfl (pc0 := 29) (pc' := 8) rfl (B d15_29) (by decide) (by decide) ?_
   refine XS.iload X18.here hx rfl (B d15_8) rfl ?_
   exact XS.iloadN X18.here hx rfl (B d15_10) rfl k)
  have pre22 : Go p e bl T18 (mkF m 14 #[rv a1, iv (2 : Int32), iv (3 : Int32), rv bt, iv (2 : Int32)] []) s1 EF := fun t k => pre21 t (XS.icmpNo X18.here hx rfl (B d15_11) rfl (tlt (by decide : (2 : Int32) < (3 : Int32))).2.1 k)
  have pre23 : Go p e bl T18 (mkF m 19 #[rv a1, iv (2 : Int32), iv (3 : Int32), rv bt, iv (2 : Int32)] [(.int (2 : Int32)), (.ref a1), (.int (2 : Int32)), (.ref bt)]) s1 EF := fun t k => pre22 t (by
   refine XS.aloadN X18.here hx rfl (B d15_14) rfl rfl ?_
   refine XS.iload X18.here hx rfl (B d15_15) rfl ?_
   refine XS.aloadN X18.here hx rfl (B d15_17) rfl rfl ?_
   exact XS.iloadN X18.here hx rfl (B d15_18) rfl k)
  obtain ⟨cl24, Ar24, q24, Sz24, M24, H24, G24⟩ := id (((V1.keep K2 nin0).keep K10 (ninS ne_a1_bt nin0)).keep K18 (ninS ne_a1_bt nin0))
  have hin24 : ¬ ((2 : Int32) < 0 ∨ cl24.slots.size ≤ ((2 : Int32)).toNatClampNeg) := inb_of Sz24 ⟨by decide, by decide⟩
  have hat24 : cl24.slots[((2 : Int32)).toNatClampNeg]? = some (.int c2) := Has.at H24 hin24 rfl
  have pre25 : Go p e bl T18 (mkF m 20 #[rv a1, iv (2 : Int32), iv (3 : Int32), rv bt, iv (2 : Int32)] [(.int c2), (.int (2 : Int32)), (.ref bt)]) s1 EF := fun t k => pre23 t (by
   exact X18.caload hx (j := (2 : Int32)) (v := (.int c2)) Ar24.1 (State.isArrayOf_alike hZ.alike Ar24.2.1) Ar24.2.2 hin24 hat24 (g := (mkF m 19 #[rv a1, iv (2 : Int32), iv (3 : Int32), rv bt, iv (2 : Int32)] [(.int (2 : Int32)), (.ref a1), (.int (2 : Int32)), (.ref bt)])) rfl rfl (B d15_19) _ k)
  obtain ⟨_, _, ⟨T26, L26, k26, n26⟩, -, X26, ⟨Lc26, hQ26, l26, y26, z26⟩, st26⟩ := Jvm.LawKit.callS X18 hx (y := mN14) hown (mvT hZ (hw _ (mW 93 rfl))) (mvT hZ (hw _ (mW 94 rfl))) (mvT hZ (hw _ (mW 45 rfl))) (mvT hZ (hw _ (mW 95 rfl))) (by decide) (backOf (W := 0) (rmKp2 l Z a0 hw [] bt c2 cz fv kb2 (6 : Int32) _ T18.heap n0 Z20 O20 J0 VP18 g_bt (by decide) (by decide) (Nat.le_of_ble_eq_true rfl)) hZ (hw _ (mW 95 rfl)) (hw _ (mW 45 rfl)) (by decide) (by decide)) (g := (mkF m 20 #[rv a1, iv (2 : Int32), iv (3 : Int32), rv bt, iv (2 : Int32)] [(.int c2), (.int (2 : Int32)), (.ref bt)])) rfl (hM rfl) (argsL := [(.ref bt), (.int (2 : Int32)), (.int c2)]) (rest := []) (lenOf pd9 rfl) rfl (Nat.le_of_eq rfl) (B d15_20) (fun _ _ => ⟨rfl, rfl, wl rfl, wl rfl⟩)
  dsimp only [Pt.U, Pt.locs, Pt.cells, Pt.slots] at X26 l26 y26 z26 st26 hQ26
  subst l26 y26 z26
  obtain ⟨rfl, N26q, K26, VQ26⟩ := hQ26
  have N26 := Fr.app N18 N26q
  have pre27 : Go p e bl T26 (mkF m 23 #[rv a1, iv (2 : Int32), iv (3 : Int32), rv bt, iv (2 : Int32)] []) s1 EF := fun t k => pre25 t (st26 t k)
  have O28 : Old Z n0 T26.heap := O20.keep K26 (allS g_bt all0)
  have Z28 : n0 ≤ T26.heap.size := Nat.le_trans Z20 K26.1
  have K28 : Keep h0 T26.heap [] := K20.trans K26 (allS (Or.inr sz_bt) all0)
  have VP26 : Arv Z T26.heap bt kb2 .byte (6 : Int32) [(.int (lo8 c0)), (.int (hi8 c0)), (.int (lo8 c1)), (.int (hi8 c1)), (.int (lo8 c2)), (.int (hi8 c2))] (.int (0 : Int32)) := VQ26
  have pre29 : Go p e bl T26 (mkF m 11 #[rv a1, iv (3 : Int32), iv (3 : Int32), rv bt, iv (3 : Int32)] [(.int (3 : Int32)), (.int (3 : Int32))]) s1 EF := fun t k => pre27 t (by
   refine XS.iinc X26.here hx rfl (B d15_23) rfl (l' := #[rv a1, iv (3 : Int32), iv (3 : Int32), rv bt, iv (2 : Int32)]) rfl ?_
   refine XS.iinc X26.here hx rfl (B d15_26) rfl (l' := #[rv a1, iv (3 : Int32), iv (3 : Int32), rv bt, iv (3 : Int32)]) rfl ?_
   refine XS.goto X26.here hx rfl (pc0 := 29) (pc' := 8) rfl (B d15_29) (by decide) (by decide) ?_
   refine XS.iload X26.here hx rfl (B d15_8) rfl ?_
   exact XS.iloadN X26.here hx rfl (B d15_10) rfl k)
  have pre30 : Go p e bl T26 (mkF m 32 #[rv a1, iv (3 : Int32), iv (3 : Int32), rv bt, iv (3 : Int32)] []) s1 EF := fun t k => pre29 t (XS.icmpYes X26.here hx rfl (pc0 := 11) (pc' := 32) rfl (B d15_11) rfl (flt (by decide : ¬ ((3 : Int32) < (3 : Int32)))).2.1 (by decide) (by decide) k)
  have pre31 : Go p e bl T26 (mkF m 33 #[rv a1, iv (3 : Int32), iv (3 : Int32), rv bt, iv (3 : Int32)] [(.ref bt)]) s1 EF := fun t k => pre30 t (by
   exact XS.aloadN X26.here hx rfl (B d15_32) rfl rfl k)
  exact fin1 X26 (v := some (.ref bt)) hrt hlk (wl rfl) (wl rfl) (by exact ⟨_, _, rfl, N26, K28, sz_bt, VP26⟩) (fun fs hr => hEF ▸ pre31 _ (retOut X26 hx Bd.returns rfl (Or.inr (Or.inr (Or.inr (Or.inr ⟨rfl, rfl, rfl⟩)))) (B d15_33) hr))
abbrev rKKb3 : Room := { frames := 3, cells := 2, slots := 9, locals := 40 }
theorem efKb3 (m : MethodId) (a1 : Addr) : entryFrame m #[(.ref a1), (.int (0 : Int32)), (.int (3 : Int32))] 6 = mkF m 0 #[rv a1, iv (0 : Int32), iv (3 : Int32), .unset, .unset, .unset] [] := by first | (simp [entryFrame, mkF, argsToLocals, Value.category]; done) | rfl
def QKb3 (Z : State) (a1 : Addr) (cz : Int32) (fv : Value) (k1 : ClassId) (c0 : Int32) (c1 : Int32) (c2 : Int32) (h0 : Heap) (n0 : Nat) (v : Option Value) (h : Heap) (L : List Loc) : Prop := (∃ b k, v = some (.ref b) ∧ Fr n0 L ∧ Keep h0 h [] ∧ h0.size ≤ b ∧ (∀ c ∈ [c0, c1, c2], ¬ (255 : Int32) < c) ∧ Arv Z h b k .byte (3 : Int32) [(.int (c0.toInt8.toInt32)), (.int (c1.toInt8.toInt32)), (.int (c2.toInt8.toInt32))] (.int (0 : Int32))) ∨ (∃ b k, v = some (.ref b) ∧ Fr n0 L ∧ Keep h0 h [] ∧ h0.size ≤ b ∧ Arv Z h b k .byte (6 : Int32) [(.int (lo8 c0)), (.int (hi8 c0)), (.int (lo8 c1)), (.int (hi8 c1)), (.int (lo8 c2)), (.int (hi8 c2))] (.int (0 : Int32)))
set_option maxRecDepth 65536 in
set_option maxHeartbeats 40000000 in
theorem rmKb3 (l : Launch) (Z : State) (a0 : Array Value) (hw : HW a0 Z) (ws : List Jvm.Cond) (a1 : Addr) (cz : Int32) (fv : Value) (k1 : ClassId) (c0 : Int32) (c1 : Int32) (c2 : Int32) (h0 : Heap) (n0 : Nat) (Z0 : n0 ≤ h0.size) (O0 : Old Z n0 h0) (J0 : Jd Z cz fv) (V1 : Arv Z h0 a1 k1 .char (3 : Int32) [(.int c0), (.int c1), (.int c2)] (.int (0 : Int32))) (hrg : ∀ c ∈ [c0, c1, c2], 0 ≤ c.toInt ∧ c.toInt < 65536) :
    MF l Z mN16 jdk_52_method_16_code 6 (some (.array .byte)) ws rKKb3 #[(.ref a1), (.int (0 : Int32)), (.int (3 : Int32))] h0 (QKb3 Z a1 cz fv k1 c0 c1 c2 h0 n0) := by
  refine MetFree.of_bodySF (plainFor_of_name pn3) hisR ?_
  intro p e s m args bl meth c s1 Bd hml0 hP hK
  obtain ⟨rfl, hZ, hh⟩ := hP
  have hx := Bd.exec
  have hby := Bd.bytes
  have B := @hb c _ hby
  have hM := fun {n : Nat} (h : n = 6) => h.trans hml0.symm
  have hown : s.vm.findClass "java/lang/StringUTF16" = some m.cls := findClass_of_methodNamed Bd.named
  have hlk : meth.locks = false := BodyLoose.notSynchronized Bd
  have hrt : ∀ {v : Option Value}, meth.sig.returnType = none → v = none := fun h => by rw [Bd.returns] at h; cases h
  have X0 : Stand p l e rKKb3 s m #[(.ref a1), (.int (0 : Int32)), (.int (3 : Int32))] bl meth c s1 [] 0 0 := Stand.of_body Bd
  have e0 : s1.heap = h0 := by rw [← hh, Bd.state]; rfl
  have N0 := Fr.nil n0
  obtain ⟨EF, hEF⟩ : ∃ f, f = entryFrame m #[(.ref a1), (.int (0 : Int32)), (.int (3 : Int32))] 6 := ⟨_, rfl⟩
  have pre0 : Go p e bl s1 (mkF m 0 #[rv a1, iv (0 : Int32), iv (3 : Int32), .unset, .unset, .unset] []) s1 EF := fun t k => by rw [hEF]; exact castTop (efKb3 m a1) k
  have pre1 : Go p e bl s1 (mkF m 1 #[rv a1, iv (0 : Int32), iv (3 : Int32), .unset, .unset, .unset] [(.int (3 : Int32))]) s1 EF := fun t k => pre0 t (by
   exact XS.iloadN X0.here hx rfl (B d16_0) rfl k)
  obtain ⟨T2, h2, k2, X2, e2, Et2, A2, st2⟩ := newP X0 hx hZ (hw _ (mW 21 rfl)) e0 (g := (mkF m 1 #[rv a1, iv (0 : Int32), iv (3 : Int32), .unset, .unset, .unset] [(.int (3 : Int32))])) rfl (B d16_1) rfl (by decide) (cap := 3) (by decide) (by decide) (by decide) (by decide)
  obtain ⟨b2, g2⟩ : ∃ z, z = h0.size := ⟨_, rfl⟩
  rw [← g2] at A2 st2
  have g_b2 : n0 ≤ b2 := Nat.le_trans Z0 (Nat.le_of_eq g2.symm)
  have sz_b2 : h0.size ≤ b2 := Nat.le_trans (Keep.refl h0 []).1 (Nat.le_of_eq g2.symm)
  have ne_a1_b2 : a1 ≠ b2 := Nat.ne_of_lt (Nat.lt_of_lt_of_le V1.lt (Nat.le_of_eq g2.symm))
  have pre3 : Go p e bl T2 (mkF m 3 #[rv a1, iv (0 : Int32), iv (3 : Int32), .unset, .unset, .unset] [(.ref b2)]) s1 EF := fun t k => pre1 t (st2 t k)
  have O4 : Old Z n0 h2 := O0.ext Et2
  have Z4 : n0 ≤ h2.size := Nat.le_trans Z0 Et2.1
  have K4 : Keep h0 h2 [] := (Keep.refl h0 []).ext Et2
  have V2 : Arv Z h2 b2 k2 .byte (3 : Int32) [(.int (0 : Int32)), (.int (0 : Int32)), (.int (0 : Int32))] (.int (0 : Int32)) := (Arv.new A2 (by decide)).pad (pad_rep [] (.int (0 : Int32)) 3)
  have pre5 : Go p e bl T2 (mkF m 9 #[rv a1, iv (0 : Int32), iv (3 : Int32), rv b2, .unset, .unset] [(.int (3 : Int32)), (.int (0 : Int32)), (.ref b2), (.int (0 : Int32)), (.ref a1)]) s1 EF := fun t k => pre3 t (by
   refine XS.astoreN X2.here hx rfl (B d16_3) rfl rfl (l' := #[rv a1, iv (0 : Int32), iv (3 : Int32), rv b2, .unset, .unset]) rfl ?_
   refine XS.aloadN X2.here hx rfl (B d16_4) rfl rfl ?_
   refine XS.iloadN X2.here hx rfl (B d16_5) rfl ?_
   refine XS.aloadN X2.here hx rfl (B d16_6) rfl rfl ?_
   refine XS.iconst X2.here hx rfl (B d16_7) ?_
   exact XS.iloadN X2.here hx rfl (B d16_8) rfl k)
  obtain ⟨_, _, ⟨T6, L6, k6, n6⟩, -, X6, ⟨Lc6, hQ6, l6, y6, z6⟩, st6⟩ := Jvm.LawKit.callS X2 hx (y := mN11) hown (mvT hZ (hw _ (mW 47 rfl))) (mvT hZ (hw _ (mW 48 rfl))) (mvT hZ (hw _ (mW 45 rfl))) (mvT hZ (hw _ (mW 49 rfl))) (by decide) (backOf (W := 0) (rmKa3 l Z a0 hw [] a1 b2 cz fv k1 k2 c0 c1 c2 h2 n0 Z4 O4 J0 (V1.ext Et2) V2 ne_a1_b2 g_b2) hZ (hw _ (mW 49 rfl)) (hw _ (mW 45 rfl)) (by decide) (by decide)) (g := (mkF m 9 #[rv a1, iv (0 : Int32), iv (3 : Int32), rv b2, .unset, .unset] [(.int (3 : Int32)), (.int (0 : Int32)), (.ref b2), (.int (0 : Int32)), (.ref a1)])) rfl (hM rfl) (argsL := [(.ref a1), (.int (0 : Int32)), (.ref b2), (.int (0 : Int32)), (.int (3 : Int32))]) (rest := []) (lenOf pd10 rfl) rfl (Nat.le_of_eq rfl) (B d16_9) (fun _ _ => ⟨rfl, e2, wl rfl, wl rfl⟩)
  dsimp only [Pt.U, Pt.locs, Pt.cells, Pt.slots] at X6 l6 y6 z6 st6 hQ6
  subst l6 y6 z6
  rcases hQ6 with ⟨rfl, N6q, K6, LE6, VL6⟩ | ⟨iB, cB, rfl, N6q, K6, hi06, hni6, hci6, hgt6⟩
  · have N6 := Fr.app N0 N6q
    have pre7 : Go p e bl T6 (mkF m 12 #[rv a1, iv (0 : Int32), iv (3 : Int32), rv b2, .unset, .unset] [(.int (3 : Int32))]) s1 EF := fun t k => pre5 t (st6 t k)
    have O8 : Old Z n0 T6.heap := O4.keep K6 (allS g_b2 all0)
    have Z8 : n0 ≤ T6.heap.size := Nat.le_trans Z4 K6.1
    have K8 : Keep h0 T6.heap [] := K4.trans K6 (allS (Or.inr sz_b2) all0)
    have pre9 : Go p e bl T6 (mkF m 17 #[rv a1, iv (0 : Int32), iv (3 : Int32), rv b2, iv (3 : Int32), .unset] [(.int (3 : Int32)), (.int (3 : Int32))]) s1 EF := fun t k => pre7 t (by
     refine XS.istore X6.here hx rfl (B d16_12) rfl (l' := #[rv a1, iv (0 : Int32), iv (3 : Int32), rv b2, iv (3 : Int32), .unset]) rfl ?_
     refine XS.iload X6.here hx rfl (B d16_14) rfl ?_
     exact XS.iloadN X6.here hx rfl (B d16_16) rfl k)
    have pre10 : Go p e bl T6 (mkF m 57 #[rv a1, iv (0 : Int32), iv (3 : Int32), rv b2, iv (3 : Int32), .unset] []) s1 EF := fun t k => pre9 t (XS.icmpYes X6.here hx rfl (pc0 := 17) (pc' := 57) rfl (B d16_17) rfl (teq (by decide : (3 : Int32) = (3 : Int32))).1 (by decide) (by decide) k)
    have pre11 : Go p e bl T6 (mkF m 58 #[rv a1, iv (0 : Int32), iv (3 : Int32), rv b2, iv (3 : Int32), .unset] [(.ref b2)]) s1 EF := fun t k => pre10 t (by
     exact XS.aloadN X6.here hx rfl (B d16_57) rfl rfl k)
    exact fin1 X6 (v := some (.ref b2)) hrt hlk (wl rfl) (wl rfl) (by exact Or.inl ⟨_, _, rfl, N6, K8, sz_b2, LE6, VL6⟩) (fun fs hr => hEF ▸ pre11 _ (retOut X6 hx Bd.returns rfl (Or.inr (Or.inr (Or.inr (Or.inr ⟨rfl, rfl, rfl⟩)))) (B d16_58) hr))
  have N6 := Fr.app N0 N6q
  have pre12 : Go p e bl T6 (mkF m 12 #[rv a1, iv (0 : Int32), iv (3 : Int32), rv b2, .unset, .unset] [(.int iB)]) s1 EF := fun t k => pre5 t (st6 t k)
  have O13 : Old Z n0 T6.heap := O4.keep K6 (allS g_b2 all0)
  have Z13 : n0 ≤ T6.heap.size := Nat.le_trans Z4 K6.1
  have K13 : Keep h0 T6.heap [] := K4.trans K6 (allS (Or.inr sz_b2) all0)
  have pre14 : Go p e bl T6 (mkF m 17 #[rv a1, iv (0 : Int32), iv (3 : Int32), rv b2, iv iB, .unset] [(.int (3 : Int32)), (.int iB)]) s1 EF := fun t k => pre12 t (by
   refine XS.istore X6.here hx rfl (B d16_12) rfl (l' := #[rv a1, iv (0 : Int32), iv (3 : Int32), rv b2, iv iB, .unset]) rfl ?_
   refine XS.iload X6.here hx rfl (B d16_14) rfl ?_
   exact XS.iloadN X6.here hx rfl (B d16_16) rfl k)
  have pre15 : Go p e bl T6 (mkF m 20 #[rv a1, iv (0 : Int32), iv (3 : Int32), rv b2, iv iB, .unset] []) s1 EF := fun t k => pre14 t (XS.icmpNo X6.here hx rfl (B d16_17) rfl (feq hni6).1 k)
  have pre16 : Go p e bl T6 (mkF m 23 #[rv a1, iv (0 : Int32), iv (3 : Int32), rv b2, iv iB, .unset] [(.int (3 : Int32)), (.int (0 : Int32)), (.ref a1)]) s1 EF := fun t k => pre15 t (by
   refine XS.aloadN X6.here hx rfl (B d16_20) rfl rfl ?_
   refine XS.iloadN X6.here hx rfl (B d16_21) rfl ?_
   exact XS.iloadN X6.here hx rfl (B d16_22) rfl k)
  obtain ⟨_, _, ⟨T17, L17, k17, n17⟩, -, X17, ⟨Lc17, hQ17, l17, y17, z17⟩, st17⟩ := Jvm.LawKit.callS X6 hx (y := mN15) hown (mvT hZ (hw _ (mW 83 rfl))) (mvT hZ (hw _ (mW 84 rfl))) (mvT hZ (hw _ (mW 45 rfl))) (mvT hZ (hw _ (mW 85 rfl))) (by decide) (backOf (W := 0) (rmKt3 l Z a0 hw [] a1 cz fv k1 c0 c1 c2 T6.heap n0 Z13 O13 J0 ((V1.ext Et2).keep K6 (ninS ne_a1_b2 nin0))) hZ (hw _ (mW 85 rfl)) (hw _ (mW 45 rfl)) (by decide) (by decide)) (g := (mkF m 23 #[rv a1, iv (0 : Int32), iv (3 : Int32), rv b2, iv iB, .unset] [(.int (3 : Int32)), (.int (0 : Int32)), (.ref a1)])) rfl (hM rfl) (argsL := [(.ref a1), (.int (0 : Int32)), (.int (3 : Int32))]) (rest := []) (lenOf pd11 rfl) rfl (Nat.le_of_eq rfl) (B d16_23) (fun _ _ => ⟨rfl, rfl, wl rfl, wl rfl⟩)
  dsimp only [Pt.U, Pt.locs, Pt.cells, Pt.slots] at X17 l17 y17 z17 st17 hQ17
  subst l17 y17 z17
  obtain ⟨bw, kb17, rfl, N17q, K17, hsz17, VB17⟩ := hQ17
  have N17 := Fr.app N6 N17q
  have pre18 : Go p e bl T17 (mkF m 26 #[rv a1, iv (0 : Int32), iv (3 : Int32), rv b2, iv iB, .unset] [(.ref bw)]) s1 EF := fun t k => pre16 t (st17 t k)
  have O19 : Old Z n0 T17.heap := O13.keep K17 all0
  have Z19 : n0 ≤ T17.heap.size := Nat.le_trans Z13 K17.1
  have K19 : Keep h0 T17.heap [] := K13.trans K17 all0
  have g_bw : n0 ≤ bw := Nat.le_trans Z13 hsz17
  have sz_bw : h0.size ≤ bw := Nat.le_trans K13.1 hsz17
  have ne_a1_bw : a1 ≠ bw := Nat.ne_of_lt (Nat.lt_of_lt_of_le ((V1.ext Et2).keep K6 (ninS ne_a1_b2 nin0)).lt hsz17)
  have pre20 : Go p e bl T17 (mkF m 32 #[rv a1, iv (0 : Int32), iv (3 : Int32), rv b2, iv iB, rv bw] [(.int iB), (.ref bw)]) s1 EF := fun t k => pre18 t (by
   refine XS.astore X17.here hx rfl (B d16_26) rfl rfl (l' := #[rv a1, iv (0 : Int32), iv (3 : Int32), rv b2, iv iB, rv bw]) rfl ?_
   refine XS.aload X17.here hx rfl (B d16_28) rfl rfl ?_
   exact XS.iload X17.here hx rfl (B d16_30) rfl k)
  have hrB := hrg cB (List.mem_of_getElem? hci6)
  have hgB := own_gx (cs := [c0, c1, c2]) (z := (6 : Int32)) hi06 hci6 (by rfl) (Nat.le_of_ble_eq_true rfl)
  obtain ⟨_, _, ⟨T21, L21, k21, n21⟩, -, X21, ⟨Lc21, hQ21, l21, y21, z21⟩, st21⟩ := Jvm.LawKit.callS X17 hx (y := mN8) hown (mvT hZ (hw _ (mW 99 rfl))) (mvT hZ (hw _ (mW 100 rfl))) (mvT hZ (hw _ (mW 45 rfl))) (mvT hZ (hw _ (mW 101 rfl))) (by decide) (backOf (W := 0) (rmJgc l Z a0 hw [] bw iB cz fv kb17 (6 : Int32) _ cB cB T17.heap n0 Z19 O19 J0 VB17 hgB.1 hgB.2.1 hgB.2.2.1 hgB.2.2.2 hrB.1 hrB.2 rfl) hZ (hw _ (mW 101 rfl)) (hw _ (mW 45 rfl)) (by decide) (by decide)) (g := (mkF m 32 #[rv a1, iv (0 : Int32), iv (3 : Int32), rv b2, iv iB, rv bw] [(.int iB), (.ref bw)])) rfl (hM rfl) (argsL := [(.ref bw), (.int iB)]) (rest := []) (lenOf pd5 rfl) rfl (Nat.le_of_eq rfl) (B d16_32) (fun _ _ => ⟨rfl, rfl, wl rfl, wl rfl⟩)
  dsimp only [Pt.U, Pt.locs, Pt.cells, Pt.slots] at X21 l21 y21 z21 st21 hQ21
  subst l21 y21 z21
  obtain ⟨rfl, N21q, hq21⟩ := hQ21
  have N21 := Fr.app N17 N21q
  have pre22 : Go p e bl T21 (mkF m 35 #[rv a1, iv (0 : Int32), iv (3 : Int32), rv b2, iv iB, rv bw] [(.int cB)]) s1 EF := fun t k => pre20 t (st21 t k)
  have e21 : T21.heap = T17.heap := hq21
  have pre23 : Go p e bl T21 (mkF m 38 #[rv a1, iv (0 : Int32), iv (3 : Int32), rv b2, iv iB, rv bw] [(.int (255 : Int32)), (.int cB)]) s1 EF := fun t k => pre22 t (by
   exact XS.sipush X21.here hx rfl (B d16_35) k)
  have pre24 : Go p e bl T21 (mkF m 54 #[rv a1, iv (0 : Int32), iv (3 : Int32), rv b2, iv iB, rv bw] []) s1 EF := fun t k => pre23 t (XS.icmpYes X21.here hx rfl (pc0 := 38) (pc' := 54) rfl (B d16_38) rfl (tlt hgt6).2.2.1 (by decide) (by decide) k)
  have pre25 : Go p e bl T21 (mkF m 56 #[rv a1, iv (0 : Int32), iv (3 : Int32), rv b2, iv iB, rv bw] [(.ref bw)]) s1 EF := fun t k => pre24 t (by
   exact XS.aload X21.here hx rfl (B d16_54) rfl rfl k)
  exact fin1 X21 (v := some (.ref bw)) hrt hlk (wl rfl) (wl rfl) (by rw [e21]; exact Or.inr ⟨_, _, rfl, N21, K19, sz_bw, VB17⟩) (fun fs hr => hEF ▸ pre25 _ (retOut X21 hx Bd.returns rfl (Or.inr (Or.inr (Or.inr (Or.inr ⟨rfl, rfl, rfl⟩)))) (B d16_56) hr))
abbrev rKKc3_0 : Room := { frames := 0, cells := 0, slots := 0, locals := 0 }
theorem efKc3_0 (m : MethodId) (a1 : Addr) : entryFrame m #[(.ref a1), (.int (3 : Int32))] 2 = mkF m 0 #[rv a1, iv (3 : Int32)] [] := by first | (simp [entryFrame, mkF, argsToLocals, Value.category]; done) | rfl
def QKc3_0 (Z : State) (a1 : Addr) (cz : Int32) (fv : Value) (k : ClassId) (vs : List Value) (h0 : Heap) (n0 : Nat) (v : Option Value) (h : Heap) (L : List Loc) : Prop := v = some (.int (0 : Int32)) ∧ Fr n0 L ∧ h = h0
set_option maxRecDepth 65536 in
set_option maxHeartbeats 40000000 in
theorem rmKc3_0 (l : Launch) (Z : State) (a0 : Array Value) (hw : HW a0 Z) (ws : List Jvm.Cond) (a1 : Addr) (cz : Int32) (fv : Value) (k : ClassId) (vs : List Value) (h0 : Heap) (n0 : Nat) (Z0 : n0 ≤ h0.size) (O0 : Old Z n0 h0) (J0 : Jd Z cz fv) (VV : Arv Z h0 a1 k .byte (3 : Int32) vs (.int 0)) :
    MF l Z mN17 jdk_52_method_15_code 2 (some .byte) ws rKKc3_0 #[(.ref a1), (.int (3 : Int32))] h0 (QKc3_0 Z a1 cz fv k vs h0 n0) := by
  refine MetFree.of_bodySF (plainFor_of_name pn3) hisR ?_
  intro p e s m args bl meth c s1 Bd hml0 hP hK
  obtain ⟨rfl, hZ, hh⟩ := hP
  have hx := Bd.exec
  have hby := Bd.bytes
  have B := @hb c _ hby
  have hown : s.vm.findClass "java/lang/StringUTF16" = some m.cls := findClass_of_methodNamed Bd.named
  have hlk : meth.locks = false := BodyLoose.notSynchronized Bd
  have hrt : ∀ {v : Option Value}, meth.sig.returnType = none → v = none := fun h => by rw [Bd.returns] at h; cases h
  have X0 : Stand p l e rKKc3_0 s m #[(.ref a1), (.int (3 : Int32))] bl meth c s1 [] 0 0 := Stand.of_body Bd
  have e0 : s1.heap = h0 := by rw [← hh, Bd.state]; rfl
  have N0 := Fr.nil n0
  obtain ⟨EF, hEF⟩ : ∃ f, f = entryFrame m #[(.ref a1), (.int (3 : Int32))] 2 := ⟨_, rfl⟩
  have pre0 : Go p e bl s1 (mkF m 0 #[rv a1, iv (3 : Int32)] []) s1 EF := fun t k => by rw [hEF]; exact castTop (efKc3_0 m a1) k
  have pre1 : Go p e bl s1 (mkF m 2 #[rv a1, iv (3 : Int32)] [(.ref a1), (.int (3 : Int32))]) s1 EF := fun t k => pre0 t (by
   refine XS.iloadN X0.here hx rfl (B d17_0) rfl ?_
   exact XS.aloadN X0.here hx rfl (B d17_1) rfl rfl k)
  obtain ⟨cl2, Ar2, q2, Sz2, M2, H2, G2⟩ := id VV
  have pre3 : Go p e bl s1 (mkF m 8 #[rv a1, iv (3 : Int32)] [(.int (0 : Int32))]) s1 EF := fun t k => pre1 t (by
   refine X0.arraylength hx (by rw [e0]; exact Ar2.1) (State.isArrayOf_alike hZ.alike Ar2.2.1) (g := (mkF m 2 #[rv a1, iv (3 : Int32)] [(.ref a1), (.int (3 : Int32))])) rfl rfl (B d17_2) _ ?_
   rw [len_of Sz2 M2]
   refine XS.isub X0.here hx rfl (B d17_3) rfl ?_
   refine XS.bipush X0.here hx rfl (B d17_4) ?_
   refine XS.iushr X0.here hx rfl (B d17_6) rfl ?_
   exact XS.i2b X0.here hx rfl (B d17_7) rfl k)
  have hnr : Value.int (nar .byte (0 : Int32)) = (.int (0 : Int32)) := by rfl
  exact fin1 X0 (v := some (.int (0 : Int32))) hrt hlk (wl rfl) (wl rfl) (by rw [e0]; exact ⟨rfl, N0, rfl⟩) (fun fs hr => hEF ▸ pre3 _ (retN X0 hx (t := .byte) Bd.returns (by simp) (B d17_8) (hnr ▸ hr)))
abbrev rKKc3_1 : Room := { frames := 0, cells := 0, slots := 0, locals := 0 }
theorem efKc3_1 (m : MethodId) (a1 : Addr) : entryFrame m #[(.ref a1), (.int (3 : Int32))] 2 = mkF m 0 #[rv a1, iv (3 : Int32)] [] := by first | (simp [entryFrame, mkF, argsToLocals, Value.category]; done) | rfl
def QKc3_1 (Z : State) (a1 : Addr) (cz : Int32) (fv : Value) (k : ClassId) (vs : List Value) (h0 : Heap) (n0 : Nat) (v : Option Value) (h : Heap) (L : List Loc) : Prop := v = some (.int (1 : Int32)) ∧ Fr n0 L ∧ h = h0
set_option maxRecDepth 65536 in
set_option maxHeartbeats 40000000 in
theorem rmKc3_1 (l : Launch) (Z : State) (a0 : Array Value) (hw : HW a0 Z) (ws : List Jvm.Cond) (a1 : Addr) (cz : Int32) (fv : Value) (k : ClassId) (vs : List Value) (h0 : Heap) (n0 : Nat) (Z0 : n0 ≤ h0.size) (O0 : Old Z n0 h0) (J0 : Jd Z cz fv) (VV : Arv Z h0 a1 k .byte (6 : Int32) vs (.int 0)) :
    MF l Z mN17 jdk_52_method_15_code 2 (some .byte) ws rKKc3_1 #[(.ref a1), (.int (3 : Int32))] h0 (QKc3_1 Z a1 cz fv k vs h0 n0) := by
  refine MetFree.of_bodySF (plainFor_of_name pn3) hisR ?_
  intro p e s m args bl meth c s1 Bd hml0 hP hK
  obtain ⟨rfl, hZ, hh⟩ := hP
  have hx := Bd.exec
  have hby := Bd.bytes
  have B := @hb c _ hby
  have hown : s.vm.findClass "java/lang/StringUTF16" = some m.cls := findClass_of_methodNamed Bd.named
  have hlk : meth.locks = false := BodyLoose.notSynchronized Bd
  have hrt : ∀ {v : Option Value}, meth.sig.returnType = none → v = none := fun h => by rw [Bd.returns] at h; cases h
  have X0 : Stand p l e rKKc3_1 s m #[(.ref a1), (.int (3 : Int32))] bl meth c s1 [] 0 0 := Stand.of_body Bd
  have e0 : s1.heap = h0 := by rw [← hh, Bd.state]; rfl
  have N0 := Fr.nil n0
  obtain ⟨EF, hEF⟩ : ∃ f, f = entryFrame m #[(.ref a1), (.int (3 : Int32))] 2 := ⟨_, rfl⟩
  have pre0 : Go p e bl s1 (mkF m 0 #[rv a1, iv (3 : Int32)] []) s1 EF := fun t k => by rw [hEF]; exact castTop (efKc3_1 m a1) k
  have pre1 : Go p e bl s1 (mkF m 2 #[rv a1, iv (3 : Int32)] [(.ref a1), (.int (3 : Int32))]) s1 EF := fun t k => pre0 t (by
   refine XS.iloadN X0.here hx rfl (B d17_0) rfl ?_
   exact XS.aloadN X0.here hx rfl (B d17_1) rfl rfl k)
  obtain ⟨cl2, Ar2, q2, Sz2, M2, H2, G2⟩ := id VV
  have pre3 : Go p e bl s1 (mkF m 8 #[rv a1, iv (3 : Int32)] [(.int (1 : Int32))]) s1 EF := fun t k => pre1 t (by
   refine X0.arraylength hx (by rw [e0]; exact Ar2.1) (State.isArrayOf_alike hZ.alike Ar2.2.1) (g := (mkF m 2 #[rv a1, iv (3 : Int32)] [(.ref a1), (.int (3 : Int32))])) rfl rfl (B d17_2) _ ?_
   rw [len_of Sz2 M2]
   refine XS.isub X0.here hx rfl (B d17_3) rfl ?_
   refine XS.bipush X0.here hx rfl (B d17_4) ?_
   refine XS.iushr X0.here hx rfl (B d17_6) rfl ?_
   exact XS.i2b X0.here hx rfl (B d17_7) rfl k)
  have hnr : Value.int (nar .byte (1 : Int32)) = (.int (1 : Int32)) := by rfl
  exact fin1 X0 (v := some (.int (1 : Int32))) hrt hlk (wl rfl) (wl rfl) (by rw [e0]; exact ⟨rfl, N0, rfl⟩) (fun fs hr => hEF ▸ pre3 _ (retN X0 hx (t := .byte) Bd.returns (by simp) (B d17_8) (hnr ▸ hr)))
abbrev rKKi3 : Room := { frames := 4, cells := 2, slots := 9, locals := 57 }
theorem efKi3 (m : MethodId) (a1 : Addr) (a2 : Addr) : entryFrame m #[(.ref a1), (.ref a2), (.int (0 : Int32)), (.int (3 : Int32)), .null] 6 = mkF m 0 #[rv a1, rv a2, iv (0 : Int32), iv (3 : Int32), .val .null, .unset] [] := by first | (simp [entryFrame, mkF, argsToLocals, Value.category]; done) | rfl
def QKi3 (Z : State) (a1 : Addr) (a2 : Addr) (cz : Int32) (fv : Value) (k1 : ClassId) (c0 : Int32) (c1 : Int32) (c2 : Int32) (h0 : Heap) (n0 : Nat) (v : Option Value) (h : Heap) (L : List Loc) : Prop := v = none ∧ Fr n0 L ∧ Keep h0 h [a1] ∧ Str Z h a1 [c0, c1, c2]
set_option maxRecDepth 65536 in
set_option maxHeartbeats 40000000 in
theorem rmKi3 (l : Launch) (Z : State) (a0 : Array Value) (hw : HW a0 Z) (ws : List Jvm.Cond) (a1 : Addr) (a2 : Addr) (cz : Int32) (fv : Value) (k1 : ClassId) (c0 : Int32) (c1 : Int32) (c2 : Int32) (h0 : Heap) (n0 : Nat) (Z0 : n0 ≤ h0.size) (O0 : Old Z n0 h0) (J0 : Jd Z cz fv) (E1 : Exa Z h0 a1 "java/lang/String") (g_a1 : n0 ≤ a1) (F1 : Fld Z h0 a1 "java/lang/String" "value" "[B" .null) (F2 : Fld Z h0 a1 "java/lang/String" "coder" "B" (.int (0 : Int32))) (V2 : Arv Z h0 a2 k1 .char (3 : Int32) [(.int c0), (.int c1), (.int c2)] (.int (0 : Int32))) (hrg : ∀ c ∈ [c0, c1, c2], 0 ≤ c.toInt ∧ c.toInt < 65536) :
    MF l Z mN18 jdk_42_method_149_code 6 none ws rKKi3 #[(.ref a1), (.ref a2), (.int (0 : Int32)), (.int (3 : Int32)), .null] h0 (QKi3 Z a1 a2 cz fv k1 c0 c1 c2 h0 n0) := by
  refine MetFree.of_bodySF (plainFor_of_name pn0) hisR ?_
  intro p e s m args bl meth c s1 Bd hml0 hP hK
  obtain ⟨rfl, hZ, hh⟩ := hP
  have hx := Bd.exec
  have hby := Bd.bytes
  have B := @hb c _ hby
  have hM := fun {n : Nat} (h : n = 6) => h.trans hml0.symm
  have hown : s.vm.findClass "java/lang/String" = some m.cls := findClass_of_methodNamed Bd.named
  have hnm := (name_of_methodNamed Bd.named Bd.method).1
  have hlk : meth.locks = false := BodyLoose.notSynchronized Bd
  have X0 : Stand p l e rKKi3 s m #[(.ref a1), (.ref a2), (.int (0 : Int32)), (.int (3 : Int32)), .null] bl meth c s1 [] 0 0 := Stand.of_body Bd
  have e0 : s1.heap = h0 := by rw [← hh, Bd.state]; rfl
  have N0 := Fr.nil n0
  obtain ⟨EF, hEF⟩ : ∃ f, f = entryFrame m #[(.ref a1), (.ref a2), (.int (0 : Int32)), (.int (3 : Int32)), .null] 6 := ⟨_, rfl⟩
  have pre0 : Go p e bl s1 (mkF m 0 #[rv a1, rv a2, iv (0 : Int32), iv (3 : Int32), .val .null, .unset] []) s1 EF := fun t k => by rw [hEF]; exact castTop (efKi3 m a1 a2) k
  have pre1 : Go p e bl s1 (mkF m 1 #[rv a1, rv a2, iv (0 : Int32), iv (3 : Int32), .val .null, .unset] [(.ref a1)]) s1 EF := fun t k => pre0 t (by
   exact XS.aloadN X0.here hx rfl (B d18_0) rfl rfl k)
  obtain ⟨T2, X2, e2, st2⟩ := initO X0 hx hZ hown (hw _ (mW 17 rfl)) (hw _ (mW 18 rfl)) (hw _ (mW 19 rfl)) e0 (g := (mkF m 1 #[rv a1, rv a2, iv (0 : Int32), iv (3 : Int32), .val .null, .unset] [(.ref a1)])) rfl (hM rfl) rfl (B d18_1) (by decide) (W := 0) (Nat.le_of_eq rfl) (by decide)
  have pre3 : Go p e bl T2 (mkF m 4 #[rv a1, rv a2, iv (0 : Int32), iv (3 : Int32), .val .null, .unset] []) s1 EF := fun t k => pre1 t (st2 t k)
  have pre4 : Go p e bl T2 (mkF m 5 #[rv a1, rv a2, iv (0 : Int32), iv (3 : Int32), .val .null, .unset] [(.int (3 : Int32))]) s1 EF := fun t k => pre3 t (by
   exact XS.iloadN X2.here hx rfl (B d18_4) rfl k)
  have pre5 : Go p e bl T2 (mkF m 27 #[rv a1, rv a2, iv (0 : Int32), iv (3 : Int32), .val .null, .unset] []) s1 EF := fun t k => pre4 t (XS.ifYes X2.here hx rfl (pc0 := 5) (pc' := 27) rfl (B d18_5) rfl ((if0 _ _).trans (feq (by decide : ¬ ((3 : Int32) = (0 : Int32)))).2) (by decide) (by decide) k)
  obtain ⟨T6, X6, e6, st6⟩ := getS2 X2 hx hZ hown (host := "") (Or.inl (hw _ (mW 42 rfl))) Via.refl e2 (J0.1.ext O0.2) (g := (mkF m 27 #[rv a1, rv a2, iv (0 : Int32), iv (3 : Int32), .val .null, .unset] [])) rfl (B d18_27)
  have pre7 : Go p e bl T6 (mkF m 30 #[rv a1, rv a2, iv (0 : Int32), iv (3 : Int32), .val .null, .unset] [(.int cz)]) s1 EF := fun t k => pre5 t (st6 t k)
  have pre8 : Go p e bl T6 (mkF m 33 #[rv a1, rv a2, iv (0 : Int32), iv (3 : Int32), .val .null, .unset] []) s1 EF := fun t k => pre7 t (XS.ifNo X6.here hx rfl (B d18_30) rfl ((if0 _ _).trans (feq J0.2.1).1) k)
  have pre9 : Go p e bl T6 (mkF m 36 #[rv a1, rv a2, iv (0 : Int32), iv (3 : Int32), .val .null, .unset] [(.int (3 : Int32)), (.int (0 : Int32)), (.ref a2)]) s1 EF := fun t k => pre8 t (by
   refine XS.aloadN X6.here hx rfl (B d18_33) rfl rfl ?_
   refine XS.iloadN X6.here hx rfl (B d18_34) rfl ?_
   exact XS.iloadN X6.here hx rfl (B d18_35) rfl k)
  obtain ⟨_, _, ⟨T10, L10, k10, n10⟩, -, X10, ⟨Lc10, hQ10, l10, y10, z10⟩, st10⟩ := Jvm.LawKit.callS X6 hx (y := mN16) hown (mvT hZ (hw _ (mW 43 rfl))) (mvT hZ (hw _ (mW 44 rfl))) (mvT hZ (hw _ (mW 45 rfl))) (mvT hZ (hw _ (mW 46 rfl))) (by decide) (backOf (W := 0) (rmKb3 l Z a0 hw [] a2 cz fv k1 c0 c1 c2 h0 n0 Z0 O0 J0 V2 hrg) hZ (hw _ (mW 46 rfl)) (hw _ (mW 45 rfl)) (by decide) (by decide)) (g := (mkF m 36 #[rv a1, rv a2, iv (0 : Int32), iv (3 : Int32), .val .null, .unset] [(.int (3 : Int32)), (.int (0 : Int32)), (.ref a2)])) rfl (hM rfl) (argsL := [(.ref a2), (.int (0 : Int32)), (.int (3 : Int32))]) (rest := []) (lenOf pd11 rfl) rfl (Nat.le_of_eq rfl) (B d18_36) (fun _ _ => ⟨rfl, e6, wl rfl, wl rfl⟩)
  dsimp only [Pt.U, Pt.locs, Pt.cells, Pt.slots] at X10 l10 y10 z10 st10 hQ10
  subst l10 y10 z10
  rcases hQ10 with ⟨bv, kb10, rfl, N10q, K10, hsz10, LE10, VB10⟩ | ⟨bv, kb10, rfl, N10q, K10, hsz10, VB10⟩
  · have N10 := Fr.app N0 N10q
    have pre11 : Go p e bl T10 (mkF m 39 #[rv a1, rv a2, iv (0 : Int32), iv (3 : Int32), .val .null, .unset] [(.ref bv)]) s1 EF := fun t k => pre9 t (st10 t k)
    have O12 : Old Z n0 T10.heap := O0.keep K10 all0
    have Z12 : n0 ≤ T10.heap.size := Nat.le_trans Z0 K10.1
    have K12 : Keep h0 T10.heap [a1] := (Keep.refl h0 [a1]).trans K10 all0
    have g_bv : n0 ≤ bv := Nat.le_trans Z0 hsz10
    have sz_bv : h0.size ≤ bv := Nat.le_trans (Keep.refl h0 [a1]).1 hsz10
    have ne_a1_bv : a1 ≠ bv := Nat.ne_of_lt (Nat.lt_of_lt_of_le E1.lt hsz10)
    have pre13 : Go p e bl T10 (mkF m 45 #[rv a1, rv a2, iv (0 : Int32), iv (3 : Int32), .val .null, rv bv] [(.int (3 : Int32)), (.ref bv), (.ref a1)]) s1 EF := fun t k => pre11 t (by
     refine XS.astore X10.here hx rfl (B d18_39) rfl rfl (l' := #[rv a1, rv a2, iv (0 : Int32), iv (3 : Int32), .val .null, rv bv]) rfl ?_
     refine XS.aloadN X10.here hx rfl (B d18_41) rfl rfl ?_
     refine XS.aload X10.here hx rfl (B d18_42) rfl rfl ?_
     exact XS.iloadN X10.here hx rfl (B d18_44) rfl k)
    obtain ⟨_, _, ⟨T14, L14, k14, n14⟩, -, X14, ⟨Lc14, hQ14, l14, y14, z14⟩, st14⟩ := Jvm.LawKit.callS X10 hx (y := mN17) hown (mvT hZ (hw _ (mW 50 rfl))) (mvT hZ (hw _ (mW 51 rfl))) (mvT hZ (hw _ (mW 45 rfl))) (mvT hZ (hw _ (mW 52 rfl))) (by decide) (backOf (W := 1) (rmKc3_0 l Z a0 hw [] bv cz fv kb10 _ T10.heap n0 Z12 O12 J0 VB10) hZ (hw _ (mW 52 rfl)) (hw _ (mW 45 rfl)) (by decide) (by decide)) (g := (mkF m 45 #[rv a1, rv a2, iv (0 : Int32), iv (3 : Int32), .val .null, rv bv] [(.int (3 : Int32)), (.ref bv), (.ref a1)])) rfl (hM rfl) (argsL := [(.ref bv), (.int (3 : Int32))]) (rest := [(.ref a1)]) (lenOf pd12 rfl) rfl (Nat.le_of_eq rfl) (B d18_45) (fun _ _ => ⟨rfl, rfl, wl rfl, wl rfl⟩)
    dsimp only [Pt.U, Pt.locs, Pt.cells, Pt.slots] at X14 l14 y14 z14 st14 hQ14
    subst l14 y14 z14
    obtain ⟨rfl, N14q, hq14⟩ := hQ14
    have N14 := Fr.app N10 N14q
    have pre15 : Go p e bl T14 (mkF m 48 #[rv a1, rv a2, iv (0 : Int32), iv (3 : Int32), .val .null, rv bv] [(.int (0 : Int32)), (.ref a1)]) s1 EF := fun t k => pre13 t (st14 t k)
    have e14 : T14.heap = T10.heap := hq14
    obtain ⟨T16, h16, X16, e16, W16, st16⟩ := putFN X14 hx hZ hown (hw _ (mW 27 rfl)) Via.refl e14 (F2.keep K10 nin0) (E1.keep K10) (Or.inr ⟨(hw _ (mW 23 rfl)), rfl, hnm⟩) (hw _ (mW 7 rfl)) (ty := .byte) (v' := (.int (0 : Int32))) (by decide) rfl rfl (g := (mkF m 48 #[rv a1, rv a2, iv (0 : Int32), iv (3 : Int32), .val .null, rv bv] [(.int (0 : Int32)), (.ref a1)])) rfl rfl (B d18_48)
    have pre17 : Go p e bl T16 (mkF m 51 #[rv a1, rv a2, iv (0 : Int32), iv (3 : Int32), .val .null, rv bv] []) s1 EF := fun t k => pre15 t (st16 t k)
    have O18 : Old Z n0 h16 := O12.wr W16 g_a1
    have Z18 : n0 ≤ h16.size := Nat.le_trans Z12 (Keep.of_wr W16).1
    have K18 : Keep h0 h16 [a1] := K12.wr W16 (Or.inl (List.mem_of_getElem? (i := 0) rfl))
    have Fw16 := Fld.same W16 (F2.keep K10 nin0)
    have N16 := Fr.snoc X16 N14 g_a1
    have pre19 : Go p e bl T16 (mkF m 54 #[rv a1, rv a2, iv (0 : Int32), iv (3 : Int32), .val .null, rv bv] [(.ref bv), (.ref a1)]) s1 EF := fun t k => pre17 t (by
     refine XS.aloadN X16.here hx rfl (B d18_51) rfl rfl ?_
     exact XS.aload X16.here hx rfl (B d18_52) rfl rfl k)
    obtain ⟨T20, h20, X20, e20, W20, st20⟩ := putF X16 hx hZ hown (host := "") (Or.inl (hw _ (mW 26 rfl))) Via.refl e16 (Fld.other W16 (F1.keep K10 nin0) (Or.inr (slot_ne (Or.inr (hw _ (mW 22 rfl))) (Or.inr (hw _ (mW 23 rfl))) (by decide) (t := (.array .byte)) (t' := .byte) (by decide) (by decide)))) ((E1.keep K10).wr W16) (Or.inr ⟨(hw _ (mW 22 rfl)), rfl, hnm⟩) (hw _ (mW 7 rfl)) (ty := (.array .byte)) (by decide) rfl rfl (g := (mkF m 54 #[rv a1, rv a2, iv (0 : Int32), iv (3 : Int32), .val .null, rv bv] [(.ref bv), (.ref a1)])) rfl rfl (B d18_54)
    have pre21 : Go p e bl T20 (mkF m 57 #[rv a1, rv a2, iv (0 : Int32), iv (3 : Int32), .val .null, rv bv] []) s1 EF := fun t k => pre19 t (st20 t k)
    have O22 : Old Z n0 h20 := O18.wr W20 g_a1
    have Z22 : n0 ≤ h20.size := Nat.le_trans Z18 (Keep.of_wr W20).1
    have K22 : Keep h0 h20 [a1] := K18.wr W20 (Or.inl (List.mem_of_getElem? (i := 0) rfl))
    have Fw20 := Fld.same W20 (Fld.other W16 (F1.keep K10 nin0) (Or.inr (slot_ne (Or.inr (hw _ (mW 22 rfl))) (Or.inr (hw _ (mW 23 rfl))) (by decide) (t := (.array .byte)) (t' := .byte) (by decide) (by decide))))
    have N20 := Fr.snoc X20 N16 g_a1
    exact fin1 X20 (v := none) (fun _ => rfl) hlk (wl rfl) (wl rfl) (by rw [e20]; exact ⟨rfl, N20, K22, ⟨_, _, _, _, _, (((E1.keep K10).wr W16).wr W20), (Fld.other W20 Fw16 (Or.inr (slot_ne (Or.inr (hw _ (mW 23 rfl))) (Or.inr (hw _ (mW 22 rfl))) (by decide) (t := .byte) (t' := (.array .byte)) (by decide) (by decide)))), Fw20, ((VB10.other W16 (Ne.symm ne_a1_bv)).other W20 (Ne.symm ne_a1_bv)), Nat.le_of_ble_eq_true rfl, Or.inl ⟨rfl, by rfl, rfl, own_le hrg LE10⟩⟩⟩) (fun fs hr => hEF ▸ pre21 _ (X20.returnOut hx Bd.returns (B d18_57) hr))
  have N10 := Fr.app N0 N10q
  have pre23 : Go p e bl T10 (mkF m 39 #[rv a1, rv a2, iv (0 : Int32), iv (3 : Int32), .val .null, .unset] [(.ref bv)]) s1 EF := fun t k => pre9 t (st10 t k)
  have O24 : Old Z n0 T10.heap := O0.keep K10 all0
  have Z24 : n0 ≤ T10.heap.size := Nat.le_trans Z0 K10.1
  have K24 : Keep h0 T10.heap [a1] := (Keep.refl h0 [a1]).trans K10 all0
  have g_bv : n0 ≤ bv := Nat.le_trans Z0 hsz10
  have sz_bv : h0.size ≤ bv := Nat.le_trans (Keep.refl h0 [a1]).1 hsz10
  have ne_a1_bv : a1 ≠ bv := Nat.ne_of_lt (Nat.lt_of_lt_of_le E1.lt hsz10)
  have pre25 : Go p e bl T10 (mkF m 45 #[rv a1, rv a2, iv (0 : Int32), iv (3 : Int32), .val .null, rv bv] [(.int (3 : Int32)), (.ref bv), (.ref a1)]) s1 EF := fun t k => pre23 t (by
   refine XS.astore X10.here hx rfl (B d18_39) rfl rfl (l' := #[rv a1, rv a2, iv (0 : Int32), iv (3 : Int32), .val .null, rv bv]) rfl ?_
   refine XS.aloadN X10.here hx rfl (B d18_41) rfl rfl ?_
   refine XS.aload X10.here hx rfl (B d18_42) rfl rfl ?_
   exact XS.iloadN X10.here hx rfl (B d18_44) rfl k)
  obtain ⟨_, _, ⟨T26, L26, k26, n26⟩, -, X26, ⟨Lc26, hQ26, l26, y26, z26⟩, st26⟩ := Jvm.LawKit.callS X10 hx (y := mN17) hown (mvT hZ (hw _ (mW 50 rfl))) (mvT hZ (hw _ (mW 51 rfl))) (mvT hZ (hw _ (mW 45 rfl))) (mvT hZ (hw _ (mW 52 rfl))) (by decide) (backOf (W := 1) (rmKc3_1 l Z a0 hw [] bv cz fv kb10 _ T10.heap n0 Z24 O24 J0 VB10) hZ (hw _ (mW 52 rfl)) (hw _ (mW 45 rfl)) (by decide) (by decide)) (g := (mkF m 45 #[rv a1, rv a2, iv (0 : Int32), iv (3 : Int32), .val .null, rv bv] [(.int (3 : Int32)), (.ref bv), (.ref a1)])) rfl (hM rfl) (argsL := [(.ref bv), (.int (3 : Int32))]) (rest := [(.ref a1)]) (lenOf pd12 rfl) rfl (Nat.le_of_eq rfl) (B d18_45) (fun _ _ => ⟨rfl, rfl, wl rfl, wl rfl⟩)
  dsimp only [Pt.U, Pt.locs, Pt.cells, Pt.slots] at X26 l26 y26 z26 st26 hQ26
  subst l26 y26 z26
  obtain ⟨rfl, N26q, hq26⟩ := hQ26
  have N26 := Fr.app N10 N26q
  have pre27 : Go p e bl T26 (mkF m 48 #[rv a1, rv a2, iv (0 : Int32), iv (3 : Int32), .val .null, rv bv] [(.int (1 : Int32)), (.ref a1)]) s1 EF := fun t k => pre25 t (st26 t k)
  have e26 : T26.heap = T10.heap := hq26
  obtain ⟨T28, h28, X28, e28, W28, st28⟩ := putFN X26 hx hZ hown (hw _ (mW 27 rfl)) Via.refl e26 (F2.keep K10 nin0) (E1.keep K10) (Or.inr ⟨(hw _ (mW 23 rfl)), rfl, hnm⟩) (hw _ (mW 7 rfl)) (ty := .byte) (v' := (.int (1 : Int32))) (by decide) rfl rfl (g := (mkF m 48 #[rv a1, rv a2, iv (0 : Int32), iv (3 : Int32), .val .null, rv bv] [(.int (1 : Int32)), (.ref a1)])) rfl rfl (B d18_48)
  have pre29 : Go p e bl T28 (mkF m 51 #[rv a1, rv a2, iv (0 : Int32), iv (3 : Int32), .val .null, rv bv] []) s1 EF := fun t k => pre27 t (st28 t k)
  have O30 : Old Z n0 h28 := O24.wr W28 g_a1
  have Z30 : n0 ≤ h28.size := Nat.le_trans Z24 (Keep.of_wr W28).1
  have K30 : Keep h0 h28 [a1] := K24.wr W28 (Or.inl (List.mem_of_getElem? (i := 0) rfl))
  have Fw28 := Fld.same W28 (F2.keep K10 nin0)
  have N28 := Fr.snoc X28 N26 g_a1
  have pre31 : Go p e bl T28 (mkF m 54 #[rv a1, rv a2, iv (0 : Int32), iv (3 : Int32), .val .null, rv bv] [(.ref bv), (.ref a1)]) s1 EF := fun t k => pre29 t (by
   refine XS.aloadN X28.here hx rfl (B d18_51) rfl rfl ?_
   exact XS.aload X28.here hx rfl (B d18_52) rfl rfl k)
  obtain ⟨T32, h32, X32, e32, W32, st32⟩ := putF X28 hx hZ hown (host := "") (Or.inl (hw _ (mW 26 rfl))) Via.refl e28 (Fld.other W28 (F1.keep K10 nin0) (Or.inr (slot_ne (Or.inr (hw _ (mW 22 rfl))) (Or.inr (hw _ (mW 23 rfl))) (by decide) (t := (.array .byte)) (t' := .byte) (by decide) (by decide)))) ((E1.keep K10).wr W28) (Or.inr ⟨(hw _ (mW 22 rfl)), rfl, hnm⟩) (hw _ (mW 7 rfl)) (ty := (.array .byte)) (by decide) rfl rfl (g := (mkF m 54 #[rv a1, rv a2, iv (0 : Int32), iv (3 : Int32), .val .null, rv bv] [(.ref bv), (.ref a1)])) rfl rfl (B d18_54)
  have pre33 : Go p e bl T32 (mkF m 57 #[rv a1, rv a2, iv (0 : Int32), iv (3 : Int32), .val .null, rv bv] []) s1 EF := fun t k => pre31 t (st32 t k)
  have O34 : Old Z n0 h32 := O30.wr W32 g_a1
  have Z34 : n0 ≤ h32.size := Nat.le_trans Z30 (Keep.of_wr W32).1
  have K34 : Keep h0 h32 [a1] := K30.wr W32 (Or.inl (List.mem_of_getElem? (i := 0) rfl))
  have Fw32 := Fld.same W32 (Fld.other W28 (F1.keep K10 nin0) (Or.inr (slot_ne (Or.inr (hw _ (mW 22 rfl))) (Or.inr (hw _ (mW 23 rfl))) (by decide) (t := (.array .byte)) (t' := .byte) (by decide) (by decide))))
  have N32 := Fr.snoc X32 N28 g_a1
  exact fin1 X32 (v := none) (fun _ => rfl) hlk (wl rfl) (wl rfl) (by rw [e32]; exact ⟨rfl, N32, K34, ⟨_, _, _, _, _, (((E1.keep K10).wr W28).wr W32), (Fld.other W32 Fw28 (Or.inr (slot_ne (Or.inr (hw _ (mW 23 rfl))) (Or.inr (hw _ (mW 22 rfl))) (by decide) (t := .byte) (t' := (.array .byte)) (by decide) (by decide)))), Fw32, ((VB10.other W28 (Ne.symm ne_a1_bv)).other W32 (Ne.symm ne_a1_bv)), Nat.le_of_ble_eq_true rfl, Or.inr ⟨rfl, by rfl, rfl, hrg⟩⟩⟩) (fun fs hr => hEF ▸ pre33 _ (X32.returnOut hx Bd.returns (B d18_57) hr))
abbrev rKKj3 : Room := { frames := 5, cells := 2, slots := 9, locals := 74 }
theorem efKj3 (m : MethodId) (a1 : Addr) (a2 : Addr) : entryFrame m #[(.ref a1), (.ref a2)] 2 = mkF m 0 #[rv a1, rv a2] [] := by first | (simp [entryFrame, mkF, argsToLocals, Value.category]; done) | rfl
def QKj3 (Z : State) (a1 : Addr) (a2 : Addr) (cz : Int32) (fv : Value) (k1 : ClassId) (c0 : Int32) (c1 : Int32) (c2 : Int32) (h0 : Heap) (n0 : Nat) (v : Option Value) (h : Heap) (L : List Loc) : Prop := v = none ∧ Fr n0 L ∧ Keep h0 h [a1] ∧ Str Z h a1 [c0, c1, c2]
set_option maxRecDepth 65536 in
set_option maxHeartbeats 40000000 in
theorem rmKj3 (l : Launch) (Z : State) (a0 : Array Value) (hw : HW a0 Z) (ws : List Jvm.Cond) (a1 : Addr) (a2 : Addr) (cz : Int32) (fv : Value) (k1 : ClassId) (c0 : Int32) (c1 : Int32) (c2 : Int32) (h0 : Heap) (n0 : Nat) (Z0 : n0 ≤ h0.size) (O0 : Old Z n0 h0) (J0 : Jd Z cz fv) (E1 : Exa Z h0 a1 "java/lang/String") (g_a1 : n0 ≤ a1) (F1 : Fld Z h0 a1 "java/lang/String" "value" "[B" .null) (F2 : Fld Z h0 a1 "java/lang/String" "coder" "B" (.int (0 : Int32))) (V2 : Arv Z h0 a2 k1 .char (3 : Int32) [(.int c0), (.int c1), (.int c2)] (.int (0 : Int32))) (hrg : ∀ c ∈ [c0, c1, c2], 0 ≤ c.toInt ∧ c.toInt < 65536) :
    MF l Z mN19 jdk_42_method_3_code 2 none ws rKKj3 #[(.ref a1), (.ref a2)] h0 (QKj3 Z a1 a2 cz fv k1 c0 c1 c2 h0 n0) := by
  refine MetFree.of_bodySF (plainFor_of_name pn0) hisR ?_
  intro p e s m args bl meth c s1 Bd hml0 hP hK
  obtain ⟨rfl, hZ, hh⟩ := hP
  have hx := Bd.exec
  have hby := Bd.bytes
  have B := @hb c _ hby
  have hM := fun {n : Nat} (h : n = 2) => h.trans hml0.symm
  have hown : s.vm.findClass "java/lang/String" = some m.cls := findClass_of_methodNamed Bd.named
  have hlk : meth.locks = false := BodyLoose.notSynchronized Bd
  have X0 : Stand p l e rKKj3 s m #[(.ref a1), (.ref a2)] bl meth c s1 [] 0 0 := Stand.of_body Bd
  have e0 : s1.heap = h0 := by rw [← hh, Bd.state]; rfl
  have N0 := Fr.nil n0
  obtain ⟨EF, hEF⟩ : ∃ f, f = entryFrame m #[(.ref a1), (.ref a2)] 2 := ⟨_, rfl⟩
  have pre0 : Go p e bl s1 (mkF m 0 #[rv a1, rv a2] []) s1 EF := fun t k => by rw [hEF]; exact castTop (efKj3 m a1 a2) k
  have pre1 : Go p e bl s1 (mkF m 4 #[rv a1, rv a2] [(.ref a2), (.int (0 : Int32)), (.ref a2), (.ref a1)]) s1 EF := fun t k => pre0 t (by
   refine XS.aloadN X0.here hx rfl (B d19_0) rfl rfl ?_
   refine XS.aloadN X0.here hx rfl (B d19_1) rfl rfl ?_
   refine XS.iconst X0.here hx rfl (B d19_2) ?_
   exact XS.aloadN X0.here hx rfl (B d19_3) rfl rfl k)
  obtain ⟨cl2, Ar2, q2, Sz2, M2, H2, G2⟩ := id V2
  have pre3 : Go p e bl s1 (mkF m 6 #[rv a1, rv a2] [.null, (.int (3 : Int32)), (.int (0 : Int32)), (.ref a2), (.ref a1)]) s1 EF := fun t k => pre1 t (by
   refine X0.arraylength hx (by rw [e0]; exact Ar2.1) (State.isArrayOf_alike hZ.alike Ar2.2.1) (g := (mkF m 4 #[rv a1, rv a2] [(.ref a2), (.int (0 : Int32)), (.ref a2), (.ref a1)])) rfl rfl (B d19_4) _ ?_
   rw [len_of Sz2 M2]
   exact XS.aconstNull X0.here hx rfl (B d19_5) k)
  obtain ⟨_, _, ⟨T4, L4, k4, n4⟩, -, X4, ⟨Lc4, hQ4, l4, y4, z4⟩, st4⟩ := X0.specialBack hx (y := mN18) rfl hown (mvT hZ (hw _ (mW 13 rfl))) (mvT hZ (hw _ (mW 14 rfl))) (mvT hZ (hw _ (mW 16 rfl))) (by decide) (backOf (W := 0) (rmKi3 l Z a0 hw [] a1 a2 cz fv k1 c0 c1 c2 h0 n0 Z0 O0 J0 E1 g_a1 F1 F2 V2 hrg) hZ (hw _ (mW 16 rfl)) (hw _ (mW 8 rfl)) (by decide) (by decide)) (g := (mkF m 6 #[rv a1, rv a2] [.null, (.int (3 : Int32)), (.int (0 : Int32)), (.ref a2), (.ref a1)])) rfl (hM rfl) (Steps.refl _) (a := a1) (argsL := [(.ref a2), (.int (0 : Int32)), (.int (3 : Int32)), .null]) (rest := []) (lenOf pd13 rfl) rfl (Nat.le_of_eq rfl) (B d19_6) (fun _ _ => ⟨rfl, e0, wl rfl, wl rfl⟩)
  dsimp only [Pt.U, Pt.locs, Pt.cells, Pt.slots] at X4 l4 y4 z4 st4 hQ4
  subst l4 y4 z4
  obtain ⟨rfl, N4q, K4, SF4⟩ := hQ4
  have N4 := Fr.app N0 N4q
  have pre5 : Go p e bl T4 (mkF m 9 #[rv a1, rv a2] []) s1 EF := fun t k => pre3 t (st4.trans k)
  have O6 : Old Z n0 T4.heap := O0.keep K4 (allS g_a1 all0)
  have Z6 : n0 ≤ T4.heap.size := Nat.le_trans Z0 K4.1
  have K6 : Keep h0 T4.heap [a1] := (Keep.refl h0 [a1]).trans K4 (allS (Or.inl (List.mem_of_getElem? (i := 0) rfl)) all0)
  exact fin1 X4 (v := none) (fun _ => rfl) hlk (wl rfl) (wl rfl) (by exact ⟨rfl, N4, K6, SF4⟩) (fun fs hr => hEF ▸ pre5 _ (X4.returnOut hx Bd.returns (B d19_9) hr))
abbrev rKKa4 : Room := { frames := 0, cells := 0, slots := 0, locals := 0 }
theorem efKa4 (m : MethodId) (a1 : Addr) (a2 : Addr) : entryFrame m #[(.ref a1), (.int (0 : Int32)), (.ref a2), (.int (0 : Int32)), (.int (4 : Int32))] 7 = mkF m 0 #[rv a1, iv (0 : Int32), rv a2, iv (0 : Int32), iv (4 : Int32), .unset, .unset] [] := by first | (simp [entryFrame, mkF, argsToLocals, Value.category]; done) | rfl
def QKa4 (Z : State) (a1 : Addr) (a2 : Addr) (cz : Int32) (fv : Value) (k1 : ClassId) (k2 : ClassId) (c0 : Int32) (c1 : Int32) (c2 : Int32) (c3 : Int32) (h0 : Heap) (n0 : Nat) (v : Option Value) (h : Heap) (L : List Loc) : Prop := (v = some (.int (4 : Int32)) ∧ Fr n0 L ∧ Keep h0 h [a2] ∧ (∀ c ∈ [c0, c1, c2, c3], ¬ (255 : Int32) < c) ∧ Arv Z h a2 k2 .byte (4 : Int32) [(.int (c0.toInt8.toInt32)), (.int (c1.toInt8.toInt32)), (.int (c2.toInt8.toInt32)), (.int (c3.toInt8.toInt32))] (.int (0 : Int32))) ∨ (∃ (i ci : Int32), v = some (.int i) ∧ Fr n0 L ∧ Keep h0 h [a2] ∧ ¬ i < 0 ∧ ¬ i = (4 : Int32) ∧ [c0, c1, c2, c3][i.toNatClampNeg]? = some ci ∧ (255 : Int32) < ci)
set_option maxRecDepth 65536 in
set_option maxHeartbeats 40000000 in
theorem rmKa4 (l : Launch) (Z : State) (a0 : Array Value) (hw : HW a0 Z) (ws : List Jvm.Cond) (a1 : Addr) (a2 : Addr) (cz : Int32) (fv : Value) (k1 : ClassId) (k2 : ClassId) (c0 : Int32) (c1 : Int32) (c2 : Int32) (c3 : Int32) (h0 : Heap) (n0 : Nat) (Z0 : n0 ≤ h0.size) (O0 : Old Z n0 h0) (J0 : Jd Z cz fv) (V1 : Arv Z h0 a1 k1 .char (4 : Int32) [(.int c0), (.int c1), (.int c2), (.int c3)] (.int (0 : Int32))) (V2 : Arv Z h0 a2 k2 .byte (4 : Int32) [(.int (0 : Int32)), (.int (0 : Int32)), (.int (0 : Int32)), (.int (0 : Int32))] (.int (0 : Int32))) (ne12 : a1 ≠ a2) (g_a2 : n0 ≤ a2) :
    MF l Z mN11 jdk_52_method_21_code 7 (some .int) ws rKKa4 #[(.ref a1), (.int (0 : Int32)), (.ref a2), (.int (0 : Int32)), (.int (4 : Int32))] h0 (QKa4 Z a1 a2 cz fv k1 k2 c0 c1 c2 c3 h0 n0) := by
  refine MetFree.of_bodySF (plainFor_of_name pn3) hisR ?_
  intro p e s m args bl meth c s1 Bd hml0 hP hK
  obtain ⟨rfl, hZ, hh⟩ := hP
  have hx := Bd.exec
  have hby := Bd.bytes
  have B := @hb c _ hby
  have hown : s.vm.findClass "java/lang/StringUTF16" = some m.cls := findClass_of_methodNamed Bd.named
  have hlk : meth.locks = false := BodyLoose.notSynchronized Bd
  have hrt : ∀ {v : Option Value}, meth.sig.returnType = none → v = none := fun h => by rw [Bd.returns] at h; cases h
  have X0 : Stand p l e rKKa4 s m #[(.ref a1), (.int (0 : Int32)), (.ref a2), (.int (0 : Int32)), (.int (4 : Int32))] bl meth c s1 [] 0 0 := Stand.of_body Bd
  have e0 : s1.heap = h0 := by rw [← hh, Bd.state]; rfl
  have N0 := Fr.nil n0
  obtain ⟨EF, hEF⟩ : ∃ f, f = entryFrame m #[(.ref a1), (.int (0 : Int32)), (.ref a2), (.int (0 : Int32)), (.int (4 : Int32))] 7 := ⟨_, rfl⟩
  have pre0 : Go p e bl s1 (mkF m 0 #[rv a1, iv (0 : Int32), rv a2, iv (0 : Int32), iv (4 : Int32), .unset, .unset] []) s1 EF := fun t k => by rw [hEF]; exact castTop (efKa4 m a1 a2) k
  have pre1 : Go p e bl s1 (mkF m 7 #[rv a1, iv (0 : Int32), rv a2, iv (0 : Int32), iv (4 : Int32), iv (0 : Int32), .unset] [(.int (4 : Int32)), (.int (0 : Int32))]) s1 EF := fun t k => pre0 t (by
   refine XS.iconst X0.here hx rfl (B d11_0) ?_
   refine XS.istore X0.here hx rfl (B d11_1) rfl (l' := #[rv a1, iv (0 : Int32), rv a2, iv (0 : Int32), iv (4 : Int32), iv (0 : Int32), .unset]) rfl ?_
   refine XS.iload X0.here hx rfl (B d11_3) rfl ?_
   exact XS.iload X0.here hx rfl (B d11_5) rfl k)
  have pre2 : Go p e bl s1 (mkF m 10 #[rv a1, iv (0 : Int32), rv a2, iv (0 : Int32), iv (4 : Int32), iv (0 : Int32), .unset] []) s1 EF := fun t k => pre1 t (XS.icmpNo X0.here hx rfl (B d11_7) rfl (tlt (by decide : (0 : Int32) < (4 : Int32))).2.1 k)
  have pre3 : Go p e bl s1 (mkF m 12 #[rv a1, iv (0 : Int32), rv a2, iv (0 : Int32), iv (4 : Int32), iv (0 : Int32), .unset] [(.int (0 : Int32)), (.ref a1)]) s1 EF := fun t k => pre2 t (by
   refine XS.aloadN X0.here hx rfl (B d11_10) rfl rfl ?_
   exact XS.iloadN X0.here hx rfl (B d11_11) rfl k)
  obtain ⟨cl4, Ar4, q4, Sz4, M4, H4, G4⟩ := id V1
  have hin4 : ¬ ((0 : Int32) < 0 ∨ cl4.slots.size ≤ ((0 : Int32)).toNatClampNeg) := inb_of Sz4 ⟨by decide, by decide⟩
  have hat4 : cl4.slots[((0 : Int32)).toNatClampNeg]? = some (.int c0) := Has.at H4 hin4 rfl
  have pre5 : Go p e bl s1 (mkF m 20 #[rv a1, iv (0 : Int32), rv a2, iv (0 : Int32), iv (4 : Int32), iv (0 : Int32), iv c0] [(.int (255 : Int32)), (.int c0)]) s1 EF := fun t k => pre3 t (by
   refine X0.caload hx (j := (0 : Int32)) (v := (.int c0)) (by rw [e0]; exact Ar4.1) (State.isArrayOf_alike hZ.alike Ar4.2.1) Ar4.2.2 hin4 hat4 (g := (mkF m 12 #[rv a1, iv (0 : Int32), rv a2, iv (0 : Int32), iv (4 : Int32), iv (0 : Int32), .unset] [(.int (0 : Int32)), (.ref a1)])) rfl rfl (B d11_12) _ ?_
   refine XS.istore X0.here hx rfl (B d11_13) rfl (l' := #[rv a1, iv (0 : Int32), rv a2, iv (0 : Int32), iv (4 : Int32), iv (0 : Int32), iv c0]) rfl ?_
   refine XS.iload X0.here hx rfl (B d11_15) rfl ?_
   exact XS.sipush X0.here hx rfl (B d11_17) k)
  by_cases hc20 : (255 : Int32) < c0
  · have pre6 : Go p e bl s1 (mkF m 23 #[rv a1, iv (0 : Int32), rv a2, iv (0 : Int32), iv (4 : Int32), iv (0 : Int32), iv c0] []) s1 EF := fun t k => pre5 t (XS.icmpNo X0.here hx rfl (B d11_20) rfl (tlt hc20).2.2.2 k)
    have pre7 : Go p e bl s1 (mkF m 25 #[rv a1, iv (0 : Int32), rv a2, iv (0 : Int32), iv (4 : Int32), iv (0 : Int32), iv c0] [(.int (0 : Int32))]) s1 EF := fun t k => pre6 t (by
     exact XS.iload X0.here hx rfl (B d11_23) rfl k)
    exact fin1 X0 (v := some (.int (0 : Int32))) hrt hlk (wl rfl) (wl rfl) (by rw [e0]; exact Or.inr ⟨_, _, rfl, N0, (Keep.refl h0 [a2]), (by decide), (by decide), rfl, hc20⟩) (fun fs hr => hEF ▸ pre7 _ (retOut X0 hx Bd.returns rfl (Or.inl ⟨rfl, Or.inl rfl, _, rfl⟩) (B d11_25) hr))
  have pre8 : Go p e bl s1 (mkF m 26 #[rv a1, iv (0 : Int32), rv a2, iv (0 : Int32), iv (4 : Int32), iv (0 : Int32), iv c0] []) s1 EF := fun t k => pre5 t (XS.icmpYes X0.here hx rfl (pc0 := 20) (pc' := 26) rfl (B d11_20) rfl (flt hc20).2.2.2 (by decide) (by decide) k)
  have pre9 : Go p e bl s1 (mkF m 31 #[rv a1, iv (0 : Int32), rv a2, iv (0 : Int32), iv (4 : Int32), iv (0 : Int32), iv c0] [(.int (c0.toInt8.toInt32)), (.int (0 : Int32)), (.ref a2)]) s1 EF := fun t k => pre8 t (by
   refine XS.aloadN X0.here hx rfl (B d11_26) rfl rfl ?_
   refine XS.iloadN X0.here hx rfl (B d11_27) rfl ?_
   refine XS.iload X0.here hx rfl (B d11_28) rfl ?_
   exact XS.i2b X0.here hx rfl (B d11_30) rfl k)
  obtain ⟨cl10, Ar10, q10, Sz10, M10, H10, G10⟩ := id V2
  have hin10 : ¬ ((0 : Int32) < 0 ∨ cl10.slots.size ≤ ((0 : Int32)).toNatClampNeg) := inb_of Sz10 ⟨by decide, by decide⟩
  obtain ⟨T10, h10, X10, e10, W10, st10⟩ := stB X0 hx hZ e0 Ar10 (j := (0 : Int32)) hin10 (g := (mkF m 31 #[rv a1, iv (0 : Int32), rv a2, iv (0 : Int32), iv (4 : Int32), iv (0 : Int32), iv c0] [(.int (c0.toInt8.toInt32)), (.int (0 : Int32)), (.ref a2)])) rfl rfl (B d11_31)
  rw [own_i2b2] at W10
  have pre11 : Go p e bl T10 (mkF m 32 #[rv a1, iv (0 : Int32), rv a2, iv (0 : Int32), iv (4 : Int32), iv (0 : Int32), iv c0] []) s1 EF := fun t k => pre9 t (st10 t k)
  have O12 : Old Z n0 h10 := O0.wr W10 g_a2
  have Z12 : n0 ≤ h10.size := Nat.le_trans Z0 (Keep.of_wr W10).1
  have K12 : Keep h0 h10 [a2] := (Keep.refl h0 [a2]).wr W10 (Or.inl (List.mem_of_getElem? (i := 0) rfl))
  have V10 : Arv Z h10 a2 k2 .byte (4 : Int32) [(.int (c0.toInt8.toInt32)), (.int (0 : Int32)), (.int (0 : Int32)), (.int (0 : Int32))] (.int (0 : Int32)) := Arv.set Ar10 q10 Sz10 M10 H10 G10 (fits_nar_byte _) W10 0 rfl (Nat.le_of_ble_eq_true rfl)
  have N10 := Fr.snoc X10 N0 g_a2
  have pre13 : Go p e bl T10 (mkF m 7 #[rv a1, iv (1 : Int32), rv a2, iv (1 : Int32), iv (4 : Int32), iv (1 : Int32), iv c0] [(.int (4 : Int32)), (.int (1 : Int32))]) s1 EF := fun t k => pre11 t (by
   refine XS.iinc X10.here hx rfl (B d11_32) rfl (l' := #[rv a1, iv (1 : Int32), rv a2, iv (0 : Int32), iv (4 : Int32), iv (0 : Int32), iv c0]) rfl ?_
   refine XS.iinc X10.here hx rfl (B d11_35) rfl (l' := #[rv a1, iv (1 : Int32), rv a2, iv (1 : Int32), iv (4 : Int32), iv (0 : Int32), iv c0]) rfl ?_
   refine XS.iinc X10.here hx rfl (B d11_38) rfl (l' := #[rv a1, iv (1 : Int32), rv a2, iv (1 : Int32), iv (4 : Int32), iv (1 : Int32), iv c0]) rfl ?_
   refine XS.goto X10.here hx rfl (pc0 := 41) (pc' := 3) rfl (B d11_41) (by decide) (by decide) ?_
   refine XS.iload X10.here hx rfl (B d11_3) rfl ?_
   exact XS.iload X10.here hx rfl (B d11_5) rfl k)
  have pre14 : Go p e bl T10 (mkF m 10 #[rv a1, iv (1 : Int32), rv a2, iv (1 : Int32), iv (4 : Int32), iv (1 : Int32), iv c0] []) s1 EF := fun t k => pre13 t (XS.icmpNo X10.here hx rfl (B d11_7) rfl (tlt (by decide : (1 : Int32) < (4 : Int32))).2.1 k)
  have pre15 : Go p e bl T10 (mkF m 12 #[rv a1, iv (1 : Int32), rv a2, iv (1 : Int32), iv (4 : Int32), iv (1 : Int32), iv c0] [(.int (1 : Int32)), (.ref a1)]) s1 EF := fun t k => pre14 t (by
   refine XS.aloadN X10.here hx rfl (B d11_10) rfl rfl ?_
   exact XS.iloadN X10.here hx rfl (B d11_11) rfl k)
  obtain ⟨cl16, Ar16, q16, Sz16, M16, H16, G16⟩ := id (V1.other W10 ne12)
  have hin16 : ¬ ((1 : Int32) < 0 ∨ cl16.slots.size ≤ ((1 : Int32)).toNatClampNeg) := inb_of Sz16 ⟨by decide, by decide⟩
  have hat16 : cl16.slots[((1 : Int32)).toNatClampNeg]? = some (.int c1) := Has.at H16 hin16 rfl
  have pre17 : Go p e bl T10 (mkF m 20 #[rv a1, iv (1 : Int32), rv a2, iv (1 : Int32), iv (4 : Int32), iv (1 : Int32), iv c1] [(.int (255 : Int32)), (.int c1)]) s1 EF := fun t k => pre15 t (by
   refine X10.caload hx (j := (1 : Int32)) (v := (.int c1)) (by rw [e10]; exact Ar16.1) (State.isArrayOf_alike hZ.alike Ar16.2.1) Ar16.2.2 hin16 hat16 (g := (mkF m 12 #[rv a1, iv (1 : Int32), rv a2, iv (1 : Int32), iv (4 : Int32), iv (1 : Int32), iv c0] [(.int (1 : Int32)), (.ref a1)])) rfl rfl (B d11_12) _ ?_
   refine XS.istore X10.here hx rfl (B d11_13) rfl (l' := #[rv a1, iv (1 : Int32), rv a2, iv (1 : Int32), iv (4 : Int32), iv (1 : Int32), iv c1]) rfl ?_
   refine XS.iload X10.here hx rfl (B d11_15) rfl ?_
   exact XS.sipush X10.here hx rfl (B d11_17) k)
  by_cases hc20' : (255 : Int32) < c1
  · have pre18 : Go p e bl T10 (mkF m 23 #[rv a1, iv (1 : Int32), rv a2, iv (1 : Int32), iv (4 : Int32), iv (1 : Int32), iv c1] []) s1 EF := fun t k => pre17 t (XS.icmpNo X10.here hx rfl (B d11_20) rfl (tlt hc20').2.2.2 k)
    have pre19 : Go p e bl T10 (mkF m 25 #[rv a1, iv (1 : Int32), rv a2, iv (1 : Int32), iv (4 : Int32), iv (1 : Int32), iv c1] [(.int (1 : Int32))]) s1 EF := fun t k => pre18 t (by
     exact XS.iload X10.here hx rfl (B d11_23) rfl k)
    exact fin1 X10 (v := some (.int (1 : Int32))) hrt hlk (wl rfl) (wl rfl) (by rw [e10]; exact Or.inr ⟨_, _, rfl, N10, K12, (by decide), (by decide), rfl, hc20'⟩) (fun fs hr => hEF ▸ pre19 _ (retOut X10 hx Bd.returns rfl (Or.inl ⟨rfl, Or.inl rfl, _, rfl⟩) (B d11_25) hr))
  have pre20 : Go p e bl T10 (mkF m 26 #[rv a1, iv (1 : Int32), rv a2, iv (1 : Int32), iv (4 : Int32), iv (1 : Int32), iv c1] []) s1 EF := fun t k => pre17 t (XS.icmpYes X10.here hx rfl (pc0 := 20) (pc' := 26) rfl (B d11_20) rfl (flt hc20').2.2.2 (by decide) (by decide) k)
  have pre21 : Go p e bl T10 (mkF m 31 #[rv a1, iv (1 : Int32), rv a2, iv (1 : Int32), iv (4 : Int32), iv (1 : Int32), iv c1] [(.int (c1.toInt8.toInt32)), (.int (1 : Int32)), (.ref a2)]) s1 EF := fun t k => pre20 t (by
   refine XS.aloadN X10.here hx rfl (B d11_26) rfl rfl ?_
   refine XS.iloadN X10.here hx rfl (B d11_27) rfl ?_
   refine XS.iload X10.here hx rfl (B d11_28) rfl ?_
   exact XS.i2b X10.here hx rfl (B d11_30) rfl k)
  obtain ⟨cl22, Ar22, q22, Sz22, M22, H22, G22⟩ := id V10
  have hin22 : ¬ ((1 : Int32) < 0 ∨ cl22.slots.size ≤ ((1 : Int32)).toNatClampNeg) := inb_of Sz22 ⟨by decide, by decide⟩
  obtain ⟨T22, h22, X22, e22, W22, st22⟩ := stB X10 hx hZ e10 Ar22 (j := (1 : Int32)) hin22 (g := (mkF m 31 #[rv a1, iv (1 : Int32), rv a2, iv (1 : Int32), iv (4 : Int32), iv (1 : Int32), iv c1] [(.int (c1.toInt8.toInt32)), (.int (1 : Int32)), (.ref a2)])) rfl rfl (B d11_31)
  rw [own_i2b2] at W22
  have pre23 : Go p e bl T22 (mkF m 32 #[rv a1, iv (1 : Int32), rv a2, iv (1 : Int32), iv (4 : Int32), iv (1 : Int32), iv c1] []) s1 EF := fun t k => pre21 t (st22 t k)
  have O24 : Old Z n0 h22 := O12.wr W22 g_a2
  have Z24 : n0 ≤ h22.size := Nat.le_trans Z12 (Keep.of_wr W22).1
  have K24 : Keep h0 h22 [a2] := K12.wr W22 (Or.inl (List.mem_of_getElem? (i := 0) rfl))
  have V22 : Arv Z h22 a2 k2 .byte (4 : Int32) [(.int (c0.toInt8.toInt32)), (.int (c1.toInt8.toInt32)), (.int (0 : Int32)), (.int (0 : Int32))] (.int (0 : Int32)) := Arv.set Ar22 q22 Sz22 M22 H22 G22 (fits_nar_byte _) W22 1 rfl (Nat.le_of_ble_eq_true rfl)
  have N22 := Fr.snoc X22 N10 g_a2
  have pre25 : Go p e bl T22 (mkF m 7 #[rv a1, iv (2 : Int32), rv a2, iv (2 : Int32), iv (4 : Int32), iv (2 : Int32), iv c1] [(.int (4 : Int32)), (.int (2 : Int32))]) s1 EF := fun t k => pre23 t (by
   refine XS.iinc X22.here hx rfl (B d11_32) rfl (l' := #[rv a1, iv (2 : Int32), rv a2, iv (1 : Int32), iv (4 : Int32), iv (1 : Int32), iv c1]) rfl ?_
   refine XS.iinc X22.here hx rfl (B d11_35) rfl (l' := #[rv a1, iv (2 : Int32), rv a2, iv (2 : Int32), iv (4 : Int32), iv (1 : Int32), iv c1]) rfl ?_
   refine XS.iinc X22.here hx rfl (B d11_38) rfl (l' := #[rv a1, iv (2 : Int32), rv a2, iv (2 : Int32), iv (4 : Int32), iv (2 : Int32), iv c1]) rfl ?_
   refine XS.goto X22.here hx rfl (pc0 := 41) (pc' := 3) rfl (B d11_41) (by decide) (by decide) ?_
   refine XS.iload X22.here hx rfl (B d11_3) rfl ?_
   exact XS.iload X22.here hx rfl (B d11_5) rfl k)
  have pre26 : Go p e bl T22 (mkF m 10 #[rv a1, iv (2 : Int32), rv a2, iv (2 : Int32), iv (4 : Int32), iv (2 : Int32), iv c1] []) s1 EF := fun t k => pre25 t (XS.icmpNo X22.here hx rfl (B d11_7) rfl (tlt (by decide : (2 : Int32) < (4 : Int32))).2.1 k)
  have pre27 : Go p e bl T22 (mkF m 12 #[rv a1, iv (2 : Int32), rv a2, iv (2 : Int32), iv (4 : Int32), iv (2 : Int32), iv c1] [(.int (2 : Int32)), (.ref a1)]) s1 EF := fun t k => pre26 t (by
   refine XS.aloadN X22.here hx rfl (B d11_10) rfl rfl ?_
   exact XS.iloadN X22.here hx rfl (B d11_11) rfl k)
  obtain ⟨cl28, Ar28, q28, Sz28, M28, H28, G28⟩ := id ((V1.other W10 ne12).other W22 ne12)
  have hin28 : ¬ ((2 : Int32) < 0 ∨ cl28.slots.size ≤ ((2 : Int32)).toNatClampNeg) := inb_of Sz28 ⟨by decide, by decide⟩
  have hat28 : cl28.slots[((2 : Int32)).toNatClampNeg]? = some (.int c2) := Has.at H28 hin28 rfl
  have pre29 : Go p e bl T22 (mkF m 20 #[rv a1, iv (2 : Int32), rv a2, iv (2 : Int32), iv (4 : Int32), iv (2 : Int32), iv c2] [(.int (255 : Int32)), (.int c2)]) s1 EF := fun t k => pre27 t (by
   refine X22.caload hx (j := (2 : Int32)) (v := (.int c2)) (by rw [e22]; exact Ar28.1) (State.isArrayOf_alike hZ.alike Ar28.2.1) Ar28.2.2 hin28 hat28 (g := (mkF m 12 #[rv a1, iv (2 : Int32), rv a2, iv (2 : Int32), iv (4 : Int32), iv (2 : Int32), iv c1] [(.int (2 : Int32)), (.ref a1)])) rfl rfl (B d11_12) _ ?_
   refine XS.istore X22.here hx rfl (B d11_13) rfl (l' := #[rv a1, iv (2 : Int32), rv a2, iv (2 : Int32), iv (4 : Int32), iv (2 : Int32), iv c2]) rfl ?_
   refine XS.iload X22.here hx rfl (B d11_15) rfl ?_
   exact XS.sipush X22.here hx rfl (B d11_17) k)
  by_cases hc20'' : (255 : Int32) < c2
  · have pre30 : Go p e bl T22 (mkF m 23 #[rv a1, iv (2 : Int32), rv a2, iv (2 : Int32), iv (4 : Int32), iv (2 : Int32), iv c2] []) s1 EF := fun t k => pre29 t (XS.icmpNo X22.here hx rfl (B d11_20) rfl (tlt hc20'').2.2.2 k)
    have pre31 : Go p e bl T22 (mkF m 25 #[rv a1, iv (2 : Int32), rv a2, iv (2 : Int32), iv (4 : Int32), iv (2 : Int32), iv c2] [(.int (2 : Int32))]) s1 EF := fun t k => pre30 t (by
     exact XS.iload X22.here hx rfl (B d11_23) rfl k)
    exact fin1 X22 (v := some (.int (2 : Int32))) hrt hlk (wl rfl) (wl rfl) (by rw [e22]; exact Or.inr ⟨_, _, rfl, N22, K24, (by decide), (by decide), rfl, hc20''⟩) (fun fs hr => hEF ▸ pre31 _ (retOut X22 hx Bd.returns rfl (Or.inl ⟨rfl, Or.inl rfl, _, rfl⟩) (B d11_25) hr))
  have pre32 : Go p e bl T22 (mkF m 26 #[rv a1, iv (2 : Int32), rv a2, iv (2 : Int32), iv (4 : Int32), iv (2 : Int32), iv c2] []) s1 EF := fun t k => pre29 t (XS.icmpYes X22.here hx rfl (pc0 := 20) (pc' := 26) rfl (B d11_20) rfl (flt hc20'').2.2.2 (by decide) (by decide) k)
  have pre33 : Go p e bl T22 (mkF m 31 #[rv a1, iv (2 : Int32), rv a2, iv (2 : Int32), iv (4 : Int32), iv (2 : Int32), iv c2] [(.int (c2.toInt8.toInt32)), (.int (2 : Int32)), (.ref a2)]) s1 EF := fun t k => pre32 t (by
   refine XS.aloadN X22.here hx rfl (B d11_26) rfl rfl ?_
   refine XS.iloadN X22.here hx rfl (B d11_27) rfl ?_
   refine XS.iload X22.here hx rfl (B d11_28) rfl ?_
   exact XS.i2b X22.here hx rfl (B d11_30) rfl k)
  obtain ⟨cl34, Ar34, q34, Sz34, M34, H34, G34⟩ := id V22
  have hin34 : ¬ ((2 : Int32) < 0 ∨ cl34.slots.size ≤ ((2 : Int32)).toNatClampNeg) := inb_of Sz34 ⟨by decide, by decide⟩
  obtain ⟨T34, h34, X34, e34, W34, st34⟩ := stB X22 hx hZ e22 Ar34 (j := (2 : Int32)) hin34 (g := (mkF m 31 #[rv a1, iv (2 : Int32), rv a2, iv (2 : Int32), iv (4 : Int32), iv (2 : Int32), iv c2] [(.int (c2.toInt8.toInt32)), (.int (2 : Int32)), (.ref a2)])) rfl rfl (B d11_31)
  rw [own_i2b2] at W34
  have pre35 : Go p e bl T34 (mkF m 32 #[rv a1, iv (2 : Int32), rv a2, iv (2 : Int32), iv (4 : Int32), iv (2 : Int32), iv c2] []) s1 EF := fun t k => pre33 t (st34 t k)
  have O36 : Old Z n0 h34 := O24.wr W34 g_a2
  have Z36 : n0 ≤ h34.size := Nat.le_trans Z24 (Keep.of_wr W34).1
  have K36 : Keep h0 h34 [a2] := K24.wr W34 (Or.inl (List.mem_of_getElem? (i := 0) rfl))
  have V34 : Arv Z h34 a2 k2 .byte (4 : Int32) [(.int (c0.toInt8.toInt32)), (.int (c1.toInt8.toInt32)), (.int (c2.toInt8.toInt32)), (.int (0 : Int32))] (.int (0 : Int32)) := Arv.set Ar34 q34 Sz34 M34 H34 G34 (fits_nar_byte _) W34 2 rfl (Nat.le_of_ble_eq_true rfl)
  have N34 := Fr.snoc X34 N22 g_a2
  have pre37 : Go p e bl T34 (mkF m 7 #[rv a1, iv (3 : Int32), rv a2, iv (3 : Int32), iv (4 : Int32), iv (3 : Int32), iv c2] [(.int (4 : Int32)), (.int (3 : Int32))]) s1 EF := fun t k => pre35 t (by
   refine XS.iinc X34.here hx rfl (B d11_32) rfl (l' := #[rv a1, iv (3 : Int32), rv a2, iv (2 : Int32), iv (4 : Int32), iv (2 : Int32), iv c2]) rfl ?_
   refine XS.iinc X34.here hx rfl (B d11_35) rfl (l' := #[rv a1, iv (3 : Int32), rv a2, iv (3 : Int32), iv (4 : Int32), iv (2 : Int32), iv c2]) rfl ?_
   refine XS.iinc X34.here hx rfl (B d11_38) rfl (l' := #[rv a1, iv (3 : Int32), rv a2, iv (3 : Int32), iv (4 : Int32), iv (3 : Int32), iv c2]) rfl ?_
   refine XS.goto X34.here hx rfl (pc0 := 41) (pc' := 3) rfl (B d11_41) (by decide) (by decide) ?_
   refine XS.iload X34.here hx rfl (B d11_3) rfl ?_
   exact XS.iload X34.here hx rfl (B d11_5) rfl k)
  have pre38 : Go p e bl T34 (mkF m 10 #[rv a1, iv (3 : Int32), rv a2, iv (3 : Int32), iv (4 : Int32), iv (3 : Int32), iv c2] []) s1 EF := fun t k => pre37 t (XS.icmpNo X34.here hx rfl (B d11_7) rfl (tlt (by decide : (3 : Int32) < (4 : Int32))).2.1 k)
  have pre39 : Go p e bl T34 (mkF m 12 #[rv a1, iv (3 : Int32), rv a2, iv (3 : Int32), iv (4 : Int32), iv (3 : Int32), iv c2] [(.int (3 : Int32)), (.ref a1)]) s1 EF := fun t k => pre38 t (by
   refine XS.aloadN X34.here hx rfl (B d11_10) rfl rfl ?_
   exact XS.iloadN X34.here hx rfl (B d11_11) rfl k)
  obtain ⟨cl40, Ar40, q40, Sz40, M40, H40, G40⟩ := id (((V1.other W10 ne12).other W22 ne12).other W34 ne12)
  have hin40 : ¬ ((3 : Int32) < 0 ∨ cl40.slots.size ≤ ((3 : Int32)).toNatClampNeg) := inb_of Sz40 ⟨by decide, by decide⟩
  have hat40 : cl40.slots[((3 : Int32)).toNatClampNeg]? = some (.int c3) := Has.at H40 hin40 rfl
  have pre41 : Go p e bl T34 (mkF m 20 #[rv a1, iv (3 : Int32), rv a2, iv (3 : Int32), iv (4 : Int32), iv (3 : Int32), iv c3] [(.int (255 : Int32)), (.int c3)]) s1 EF := fun t k => pre39 t (by
   refine X34.caload hx (j := (3 : Int32)) (v := (.int c3)) (by rw [e34]; exact Ar40.1) (State.isArrayOf_alike hZ.alike Ar40.2.1) Ar40.2.2 hin40 hat40 (g := (mkF m 12 #[rv a1, iv (3 : Int32), rv a2, iv (3 : Int32), iv (4 : Int32), iv (3 : Int32), iv c2] [(.int (3 : Int32)), (.ref a1)])) rfl rfl (B d11_12) _ ?_
   refine XS.istore X34.here hx rfl (B d11_13) rfl (l' := #[rv a1, iv (3 : Int32), rv a2, iv (3 : Int32), iv (4 : Int32), iv (3 : Int32), iv c3]) rfl ?_
   refine XS.iload X34.here hx rfl (B d11_15) rfl ?_
   exact XS.sipush X34.here hx rfl (B d11_17) k)
  by_cases hc20''' : (255 : Int32) < c3
  · have pre42 : Go p e bl T34 (mkF m 23 #[rv a1, iv (3 : Int32), rv a2, iv (3 : Int32), iv (4 : Int32), iv (3 : Int32), iv c3] []) s1 EF := fun t k => pre41 t (XS.icmpNo X34.here hx rfl (B d11_20) rfl (tlt hc20''').2.2.2 k)
    have pre43 : Go p e bl T34 (mkF m 25 #[rv a1, iv (3 : Int32), rv a2, iv (3 : Int32), iv (4 : Int32), iv (3 : Int32), iv c3] [(.int (3 : Int32))]) s1 EF := fun t k => pre42 t (by
     exact XS.iload X34.here hx rfl (B d11_23) rfl k)
    exact fin1 X34 (v := some (.int (3 : Int32))) hrt hlk (wl rfl) (wl rfl) (by rw [e34]; exact Or.inr ⟨_, _, rfl, N34, K36, (by decide), (by decide), rfl, hc20'''⟩) (fun fs hr => hEF ▸ pre43 _ (retOut X34 hx Bd.returns rfl (Or.inl ⟨rfl, Or.inl rfl, _, rfl⟩) (B d11_25) hr))
  have pre44 : Go p e bl T34 (mkF m 26 #[rv a1, iv (3 : Int32), rv a2, iv (3 : Int32), iv (4 : Int32), iv (3 : Int32), iv c3] []) s1 EF := fun t k => pre41 t (XS.icmpYes X34.here hx rfl (pc0 := 20) (pc' := 26) rfl (B d11_20) rfl (flt hc20''').2.2.2 (by decide) (by decide) k)
  have pre45 : Go p e bl T34 (mkF m 31 #[rv a1, iv (3 : Int32), rv a2, iv (3 : Int32), iv (4 : Int32), iv (3 : Int32), iv c3] [(.int (c3.toInt8.toInt32)), (.int (3 : Int32)), (.ref a2)]) s1 EF := fun t k => pre44 t (by
   refine XS.aloadN X34.here hx rfl (B d11_26) rfl rfl ?_
   refine XS.iloadN X34.here hx rfl (B d11_27) rfl ?_
   refine XS.iload X34.here hx rfl (B d11_28) rfl ?_
   exact XS.i2b X34.here hx rfl (B d11_30) rfl k)
  obtain ⟨cl46, Ar46, q46, Sz46, M46, H46, G46⟩ := id V34
  have hin46 : ¬ ((3 : Int32) < 0 ∨ cl46.slots.size ≤ ((3 : Int32)).toNatClampNeg) := inb_of Sz46 ⟨by decide, by decide⟩
  obtain ⟨T46, h46, X46, e46, W46, st46⟩ := stB X34 hx hZ e34 Ar46 (j := (3 : Int32)) hin46 (g := (mkF m 31 #[rv a1, iv (3 : Int32), rv a2, iv (3 : Int32), iv (4 : Int32), iv (3 : Int32), iv c3] [(.int (c3.toInt8.toInt32)), (.int (3 : Int32)), (.ref a2)])) rfl rfl (B d11_31)
  rw [own_i2b2] at W46
  have pre47 : Go p e bl T46 (mkF m 32 #[rv a1, iv (3 : Int32), rv a2, iv (3 : Int32), iv (4 : Int32), iv (3 : Int32), iv c3] []) s1 EF := fun t k => pre45 t (st46 t k)
  have O48 : Old Z n0 h46 := O36.wr W46 g_a2
  have Z48 : n0 ≤ h46.size := Nat.le_trans Z36 (Keep.of_wr W46).1
  have K48 : Keep h0 h46 [a2] := K36.wr W46 (Or.inl (List.mem_of_getElem? (i := 0) rfl))
  have V46 : Arv Z h46 a2 k2 .byte (4 : Int32) [(.int (c0.toInt8.toInt32)), (.int (c1.toInt8.toInt32)), (.int (c2.toInt8.toInt32)), (.int (c3.toInt8.toInt32))] (.int (0 : Int32)) := Arv.set Ar46 q46 Sz46 M46 H46 G46 (fits_nar_byte _) W46 3 rfl (Nat.le_of_ble_eq_true rfl)
  have N46 := Fr.snoc X46 N34 g_a2
  have pre49 : Go p e bl T46 (mkF m 7 #[rv a1, iv (4 : Int32), rv a2, iv (4 : Int32), iv (4 : Int32), iv (4 : Int32), iv c3] [(.int (4 : Int32)), (.int (4 : Int32))]) s1 EF := fun t k => pre47 t (by
   refine XS.iinc X46.here hx rfl (B d11_32) rfl (l' := #[rv a1, iv (4 : Int32), rv a2, iv (3 : Int32), iv (4 : Int32), iv (3 : Int32), iv c3]) rfl ?_
   refine XS.iinc X46.here hx rfl (B d11_35) rfl (l' := #[rv a1, iv (4 : Int32), rv a2, iv (4 : Int32), iv (4 : Int32), iv (3 : Int32), iv c3]) rfl ?_
   refine XS.iinc X46.here hx rfl (B d11_38) rfl (l' := #[rv a1, iv (4 : Int32), rv a2, iv (4 : Int32), iv (4 : Int32), iv (4 : Int32), iv c3]) rfl ?_
   refine XS.goto X46.here hx rfl (pc0 := 41) (pc' := 3) rfl (B d11_41) (by decide) (by decide) ?_
   refine XS.iload X46.here hx rfl (B d11_3) rfl ?_
   exact XS.iload X46.here hx rfl (B d11_5) rfl k)
  have pre50 : Go p e bl T46 (mkF m 44 #[rv a1, iv (4 : Int32), rv a2, iv (4 : Int32), iv (4 : Int32), iv (4 : Int32), iv c3] []) s1 EF := fun t k => pre49 t (XS.icmpYes X46.here hx rfl (pc0 := 7) (pc' := 44) rfl (B d11_7) rfl (flt (by decide : ¬ ((4 : Int32) < (4 : Int32)))).2.1 (by decide) (by decide) k)
  have pre51 : Go p e bl T46 (mkF m 46 #[rv a1, iv (4 : Int32), rv a2, iv (4 : Int32), iv (4 : Int32), iv (4 : Int32), iv c3] [(.int (4 : Int32))]) s1 EF := fun t k => pre50 t (by
   exact XS.iload X46.here hx rfl (B d11_44) rfl k)
  exact fin1 X46 (v := some (.int (4 : Int32))) hrt hlk (wl rfl) (wl rfl) (by rw [e46]; exact Or.inl ⟨rfl, N46, K48, (List.forall_mem_cons.mpr ⟨hc20, (List.forall_mem_cons.mpr ⟨hc20', (List.forall_mem_cons.mpr ⟨hc20'', (List.forall_mem_cons.mpr ⟨hc20''', (fun _ q => nomatch q)⟩)⟩)⟩)⟩), V46⟩) (fun fs hr => hEF ▸ pre51 _ (retOut X46 hx Bd.returns rfl (Or.inl ⟨rfl, Or.inl rfl, _, rfl⟩) (B d11_46) hr))
abbrev rKKn4 : Room := { frames := 0, cells := 0, slots := 0, locals := 0 }
theorem efKn4 (m : MethodId)  : entryFrame m #[(.int (4 : Int32))] 1 = mkF m 0 #[iv (4 : Int32)] [] := by first | (simp [entryFrame, mkF, argsToLocals, Value.category]; done) | rfl
def QKn4 (Z : State) (cz : Int32) (fv : Value) (h0 : Heap) (n0 : Nat) (v : Option Value) (h : Heap) (L : List Loc) : Prop := v = some (.int (8 : Int32)) ∧ Fr n0 L ∧ h = h0
set_option maxRecDepth 65536 in
set_option maxHeartbeats 40000000 in
theorem rmKn4 (l : Launch) (Z : State) (a0 : Array Value) (hw : HW a0 Z) (ws : List Jvm.Cond) (cz : Int32) (fv : Value) (h0 : Heap) (n0 : Nat) (Z0 : n0 ≤ h0.size) (O0 : Old Z n0 h0) (J0 : Jd Z cz fv) :
    MF l Z mN12 jdk_52_method_3_code 1 (some .int) ws rKKn4 #[(.int (4 : Int32))] h0 (QKn4 Z cz fv h0 n0) := by
  refine MetFree.of_bodySF (plainFor_of_name pn3) hisR ?_
  intro p e s m args bl meth c s1 Bd hml0 hP hK
  obtain ⟨rfl, hZ, hh⟩ := hP
  have hx := Bd.exec
  have hby := Bd.bytes
  have B := @hb c _ hby
  have hown : s.vm.findClass "java/lang/StringUTF16" = some m.cls := findClass_of_methodNamed Bd.named
  have hlk : meth.locks = false := BodyLoose.notSynchronized Bd
  have hrt : ∀ {v : Option Value}, meth.sig.returnType = none → v = none := fun h => by rw [Bd.returns] at h; cases h
  have X0 : Stand p l e rKKn4 s m #[(.int (4 : Int32))] bl meth c s1 [] 0 0 := Stand.of_body Bd
  have e0 : s1.heap = h0 := by rw [← hh, Bd.state]; rfl
  have N0 := Fr.nil n0
  obtain ⟨EF, hEF⟩ : ∃ f, f = entryFrame m #[(.int (4 : Int32))] 1 := ⟨_, rfl⟩
  have pre0 : Go p e bl s1 (mkF m 0 #[iv (4 : Int32)] []) s1 EF := fun t k => by rw [hEF]; exact castTop (efKn4 m ) k
  have pre1 : Go p e bl s1 (mkF m 1 #[iv (4 : Int32)] [(.int (4 : Int32))]) s1 EF := fun t k => pre0 t (by
   exact XS.iloadN X0.here hx rfl (B d12_0) rfl k)
  have pre2 : Go p e bl s1 (mkF m 12 #[iv (4 : Int32)] []) s1 EF := fun t k => pre1 t (XS.ifYes X0.here hx rfl (pc0 := 1) (pc' := 12) rfl (B d12_1) rfl ((if0 _ _).trans (flt (by decide : ¬ ((4 : Int32) < (0 : Int32)))).2.1) (by decide) (by decide) k)
  have pre3 : Go p e bl s1 (mkF m 15 #[iv (4 : Int32)] [(.int (1073741823 : Int32)), (.int (4 : Int32))]) s1 EF := fun t k => pre2 t (by
   refine XS.iloadN X0.here hx rfl (B d12_12) rfl ?_
   exact X0.ldcInt hx hown (mvT hZ (hw _ (mW 92 rfl))) (g := (mkF m 13 #[iv (4 : Int32)] [(.int (4 : Int32))])) rfl (B d12_13) _ k)
  have pre4 : Go p e bl s1 (mkF m 55 #[iv (4 : Int32)] []) s1 EF := fun t k => pre3 t (XS.icmpYes X0.here hx rfl (pc0 := 15) (pc' := 55) rfl (B d12_15) rfl (tlt (by decide : (4 : Int32) < (1073741823 : Int32))).1 (by decide) (by decide) k)
  have pre5 : Go p e bl s1 (mkF m 58 #[iv (4 : Int32)] [(.int (8 : Int32))]) s1 EF := fun t k => pre4 t (by
   refine XS.iloadN X0.here hx rfl (B d12_55) rfl ?_
   refine XS.iconst X0.here hx rfl (B d12_56) ?_
   exact XS.ishl X0.here hx rfl (B d12_57) rfl k)
  exact fin1 X0 (v := some (.int (8 : Int32))) hrt hlk (wl rfl) (wl rfl) (by rw [e0]; exact ⟨rfl, N0, rfl⟩) (fun fs hr => hEF ▸ pre5 _ (retOut X0 hx Bd.returns rfl (Or.inl ⟨rfl, Or.inl rfl, _, rfl⟩) (B d12_58) hr))
abbrev rKKf4 : Room := { frames := 1, cells := 1, slots := 8, locals := 12 }
theorem efKf4 (m : MethodId)  : entryFrame m #[(.int (4 : Int32))] 1 = mkF m 0 #[iv (4 : Int32)] [] := by first | (simp [entryFrame, mkF, argsToLocals, Value.category]; done) | rfl
def QKf4 (Z : State) (cz : Int32) (fv : Value) (h0 : Heap) (n0 : Nat) (v : Option Value) (h : Heap) (L : List Loc) : Prop := ∃ b k, v = some (.ref b) ∧ Fr n0 L ∧ Keep h0 h [] ∧ h0.size ≤ b ∧ Arv Z h b k .byte (8 : Int32) [(.int (0 : Int32)), (.int (0 : Int32)), (.int (0 : Int32)), (.int (0 : Int32)), (.int (0 : Int32)), (.int (0 : Int32)), (.int (0 : Int32)), (.int (0 : Int32))] (.int (0 : Int32))
set_option maxRecDepth 65536 in
set_option maxHeartbeats 40000000 in
theorem rmKf4 (l : Launch) (Z : State) (a0 : Array Value) (hw : HW a0 Z) (ws : List Jvm.Cond) (cz : Int32) (fv : Value) (h0 : Heap) (n0 : Nat) (Z0 : n0 ≤ h0.size) (O0 : Old Z n0 h0) (J0 : Jd Z cz fv) :
    MF l Z mN13 jdk_52_method_2_code 1 (some (.array .byte)) ws rKKf4 #[(.int (4 : Int32))] h0 (QKf4 Z cz fv h0 n0) := by
  refine MetFree.of_bodySF (plainFor_of_name pn3) hisR ?_
  intro p e s m args bl meth c s1 Bd hml0 hP hK
  obtain ⟨rfl, hZ, hh⟩ := hP
  have hx := Bd.exec
  have hby := Bd.bytes
  have B := @hb c _ hby
  have hM := fun {n : Nat} (h : n = 1) => h.trans hml0.symm
  have hown : s.vm.findClass "java/lang/StringUTF16" = some m.cls := findClass_of_methodNamed Bd.named
  have hlk : meth.locks = false := BodyLoose.notSynchronized Bd
  have hrt : ∀ {v : Option Value}, meth.sig.returnType = none → v = none := fun h => by rw [Bd.returns] at h; cases h
  have X0 : Stand p l e rKKf4 s m #[(.int (4 : Int32))] bl meth c s1 [] 0 0 := Stand.of_body Bd
  have e0 : s1.heap = h0 := by rw [← hh, Bd.state]; rfl
  have N0 := Fr.nil n0
  obtain ⟨EF, hEF⟩ : ∃ f, f = entryFrame m #[(.int (4 : Int32))] 1 := ⟨_, rfl⟩
  have pre0 : Go p e bl s1 (mkF m 0 #[iv (4 : Int32)] []) s1 EF := fun t k => by rw [hEF]; exact castTop (efKf4 m ) k
  have pre1 : Go p e bl s1 (mkF m 1 #[iv (4 : Int32)] [(.int (4 : Int32))]) s1 EF := fun t k => pre0 t (by
   exact XS.iloadN X0.here hx rfl (B d13_0) rfl k)
  obtain ⟨_, _, ⟨T2, L2, k2, n2⟩, -, X2, ⟨Lc2, hQ2, l2, y2, z2⟩, st2⟩ := Jvm.LawKit.callS X0 hx (y := mN12) hown (mvT hZ (hw _ (mW 89 rfl))) (mvT hZ (hw _ (mW 90 rfl))) (mvT hZ (hw _ (mW 45 rfl))) (mvT hZ (hw _ (mW 91 rfl))) (by decide) (backOf (W := 0) (rmKn4 l Z a0 hw []  cz fv  h0 n0 Z0 O0 J0 ) hZ (hw _ (mW 91 rfl)) (hw _ (mW 45 rfl)) (by decide) (by decide)) (g := (mkF m 1 #[iv (4 : Int32)] [(.int (4 : Int32))])) rfl (hM rfl) (argsL := [(.int (4 : Int32))]) (rest := []) (lenOf pd7 rfl) rfl (Nat.le_of_eq rfl) (B d13_1) (fun _ _ => ⟨rfl, e0, wl rfl, wl rfl⟩)
  dsimp only [Pt.U, Pt.locs, Pt.cells, Pt.slots] at X2 l2 y2 z2 st2 hQ2
  subst l2 y2 z2
  obtain ⟨rfl, N2q, hq2⟩ := hQ2
  have N2 := Fr.app N0 N2q
  have pre3 : Go p e bl T2 (mkF m 4 #[iv (4 : Int32)] [(.int (8 : Int32))]) s1 EF := fun t k => pre1 t (st2 t k)
  have e2 : T2.heap = h0 := hq2
  obtain ⟨T4, h4, k4, X4, e4, Et4, A4, st4⟩ := newP X2 hx hZ (hw _ (mW 21 rfl)) e2 (g := (mkF m 4 #[iv (4 : Int32)] [(.int (8 : Int32))])) rfl (B d13_4) rfl (by decide) (cap := 8) (by decide) (by decide) (by decide) (by decide)
  obtain ⟨b4, g4⟩ : ∃ z, z = h0.size := ⟨_, rfl⟩
  rw [← g4] at A4 st4
  have g_b4 : n0 ≤ b4 := Nat.le_trans Z0 (Nat.le_of_eq g4.symm)
  have sz_b4 : h0.size ≤ b4 := Nat.le_trans (Keep.refl h0 []).1 (Nat.le_of_eq g4.symm)
  have pre5 : Go p e bl T4 (mkF m 6 #[iv (4 : Int32)] [(.ref b4)]) s1 EF := fun t k => pre3 t (st4 t k)
  have O6 : Old Z n0 h4 := O0.ext Et4
  have Z6 : n0 ≤ h4.size := Nat.le_trans Z0 Et4.1
  have K6 : Keep h0 h4 [] := (Keep.refl h0 []).ext Et4
  have V4 : Arv Z h4 b4 k4 .byte (8 : Int32) [(.int (0 : Int32)), (.int (0 : Int32)), (.int (0 : Int32)), (.int (0 : Int32)), (.int (0 : Int32)), (.int (0 : Int32)), (.int (0 : Int32)), (.int (0 : Int32))] (.int (0 : Int32)) := (Arv.new A4 (by decide)).pad (pad_rep [] (.int (0 : Int32)) 8)
  exact fin1 X4 (v := some (.ref b4)) hrt hlk (wl rfl) (wl rfl) (by rw [e4]; exact ⟨_, _, rfl, N2, K6, sz_b4, V4⟩) (fun fs hr => hEF ▸ pre5 _ (retOut X4 hx Bd.returns rfl (Or.inr (Or.inr (Or.inr (Or.inr ⟨rfl, rfl, rfl⟩)))) (B d13_6) hr))
abbrev rKKp3 : Room := { frames := 0, cells := 0, slots := 0, locals := 0 }
theorem efKp3 (m : MethodId) (a1 : Addr) (p2 : Int32) : entryFrame m #[(.ref a1), (.int (3 : Int32)), (.int p2)] 3 = mkF m 0 #[rv a1, iv (3 : Int32), iv p2] [] := by first | (simp [entryFrame, mkF, argsToLocals, Value.category]; done) | rfl
def QKp3 (Z : State) (a1 : Addr) (p2 : Int32) (cz : Int32) (fv : Value) (k : ClassId) (z : Int32) (vs : List Value) (h0 : Heap) (n0 : Nat) (v : Option Value) (h : Heap) (L : List Loc) : Prop := v = none ∧ Fr n0 L ∧ Keep h0 h [a1] ∧ Arv Z h a1 k .byte z ((vs.set 6 (.int (lo8 p2))).set 7 (.int (hi8 p2))) (.int 0)
set_option maxRecDepth 65536 in
set_option maxHeartbeats 40000000 in
theorem rmKp3 (l : Launch) (Z : State) (a0 : Array Value) (hw : HW a0 Z) (ws : List Jvm.Cond) (a1 : Addr) (p2 : Int32) (cz : Int32) (fv : Value) (k : ClassId) (z : Int32) (vs : List Value) (h0 : Heap) (n0 : Nat) (Z0 : n0 ≤ h0.size) (O0 : Old Z n0 h0) (J0 : Jd Z cz fv) (VV : Arv Z h0 a1 k .byte z vs (.int 0)) (g_a1 : n0 ≤ a1) (hz0 : (6 : Int32) < z) (hz1 : (7 : Int32) < z) (hln : 7 < vs.length) :
    MF l Z mN14 jdk_52_method_4_code 3 none ws rKKp3 #[(.ref a1), (.int (3 : Int32)), (.int p2)] h0 (QKp3 Z a1 p2 cz fv k z vs h0 n0) := by
  refine MetFree.of_bodySF (plainFor_of_name pn3) hisR ?_
  intro p e s m args bl meth c s1 Bd hml0 hP hK
  obtain ⟨rfl, hZ, hh⟩ := hP
  have hx := Bd.exec
  have hby := Bd.bytes
  have B := @hb c _ hby
  have hown : s.vm.findClass "java/lang/StringUTF16" = some m.cls := findClass_of_methodNamed Bd.named
  have hlk : meth.locks = false := BodyLoose.notSynchronized Bd
  have X0 : Stand p l e rKKp3 s m #[(.ref a1), (.int (3 : Int32)), (.int p2)] bl meth c s1 [] 0 0 := Stand.of_body Bd
  have e0 : s1.heap = h0 := by rw [← hh, Bd.state]; rfl
  have N0 := Fr.nil n0
  obtain ⟨EF, hEF⟩ : ∃ f, f = entryFrame m #[(.ref a1), (.int (3 : Int32)), (.int p2)] 3 := ⟨_, rfl⟩
  have pre0 : Go p e bl s1 (mkF m 0 #[rv a1, iv (3 : Int32), iv p2] []) s1 EF := fun t k => by rw [hEF]; exact castTop (efKp3 m a1 p2) k
  obtain ⟨T1, X1, e1, st1⟩ := getS2 X0 hx hZ hown (host := "") (Or.inl (hw _ (mW 96 rfl))) Via.refl e0 (J0.2.2.2.1.ext O0.2) (g := (mkF m 0 #[rv a1, iv (3 : Int32), iv p2] [])) rfl (B d14_0)
  have pre2 : Go p e bl T1 (mkF m 3 #[rv a1, iv (3 : Int32), iv p2] [(.int (1 : Int32))]) s1 EF := fun t k => pre0 t (st1 t k)
  have pre3 : Go p e bl T1 (mkF m 28 #[rv a1, iv (3 : Int32), iv p2] []) s1 EF := fun t k => pre2 t (XS.ifYes X1.here hx rfl (pc0 := 3) (pc' := 28) rfl (B d14_3) rfl ((if0 _ _).trans (feq (by decide : ¬ ((1 : Int32) = (0 : Int32)))).2) (by decide) (by decide) k)
  have pre4 : Go p e bl T1 (mkF m 38 #[rv a1, iv (7 : Int32), iv p2] [(.int p2), (.int (6 : Int32)), (.ref a1)]) s1 EF := fun t k => pre3 t (by
   refine XS.iloadN X1.here hx rfl (B d14_28) rfl ?_
   refine XS.iconst X1.here hx rfl (B d14_29) ?_
   refine XS.ishl X1.here hx rfl (B d14_30) rfl ?_
   refine XS.istoreN X1.here hx rfl (B d14_31) rfl (l' := #[rv a1, iv (6 : Int32), iv p2]) rfl ?_
   refine XS.aloadN X1.here hx rfl (B d14_32) rfl rfl ?_
   refine XS.iloadN X1.here hx rfl (B d14_33) rfl ?_
   refine XS.iinc X1.here hx rfl (B d14_34) rfl (l' := #[rv a1, iv (7 : Int32), iv p2]) rfl ?_
   exact XS.iloadN X1.here hx rfl (B d14_37) rfl k)
  obtain ⟨T5, X5, e5, st5⟩ := getS2 X1 hx hZ hown (host := "") (Or.inl (hw _ (mW 97 rfl))) Via.refl e1 (J0.2.2.2.2.1.ext O0.2) (g := (mkF m 38 #[rv a1, iv (7 : Int32), iv p2] [(.int p2), (.int (6 : Int32)), (.ref a1)])) rfl (B d14_38)
  have pre6 : Go p e bl T5 (mkF m 41 #[rv a1, iv (7 : Int32), iv p2] [(.int (0 : Int32)), (.int p2), (.int (6 : Int32)), (.ref a1)]) s1 EF := fun t k => pre4 t (st5 t k)
  have pre7 : Go p e bl T5 (mkF m 43 #[rv a1, iv (7 : Int32), iv p2] [(.int ((p2 >>> ((0 : Int32) &&& 31)).toInt8.toInt32)), (.int (6 : Int32)), (.ref a1)]) s1 EF := fun t k => pre6 t (by
   refine XS.ishr X5.here hx rfl (B d14_41) rfl ?_
   exact XS.i2b X5.here hx rfl (B d14_42) rfl k)
  obtain ⟨cl8, Ar8, q8, Sz8, M8, H8, G8⟩ := id VV
  have hin8 : ¬ ((6 : Int32) < 0 ∨ cl8.slots.size ≤ ((6 : Int32)).toNatClampNeg) := inb_of Sz8 ⟨by decide, hz0⟩
  obtain ⟨T8, h8, X8, e8, W8, st8⟩ := stB X5 hx hZ e5 Ar8 (j := (6 : Int32)) hin8 (g := (mkF m 43 #[rv a1, iv (7 : Int32), iv p2] [(.int ((p2 >>> ((0 : Int32) &&& 31)).toInt8.toInt32)), (.int (6 : Int32)), (.ref a1)])) rfl rfl (B d14_43)
  rw [own_i2b2] at W8
  have pre9 : Go p e bl T8 (mkF m 44 #[rv a1, iv (7 : Int32), iv p2] []) s1 EF := fun t k => pre7 t (st8 t k)
  have O10 : Old Z n0 h8 := O0.wr W8 g_a1
  have Z10 : n0 ≤ h8.size := Nat.le_trans Z0 (Keep.of_wr W8).1
  have K10 : Keep h0 h8 [a1] := (Keep.refl h0 [a1]).wr W8 (Or.inl (List.mem_of_getElem? (i := 0) rfl))
  have V8 : Arv Z h8 a1 k .byte z (vs.set 6 (.int ((p2 >>> ((0 : Int32) &&& 31)).toInt8.toInt32))) (.int (0 : Int32)) := Arv.set Ar8 q8 Sz8 M8 H8 G8 (fits_nar_byte _) W8 6 rfl (by first | (simp only [List.length_set]; omega) | omega)
  have N8 := Fr.snoc X8 N0 g_a1
  have pre11 : Go p e bl T8 (mkF m 47 #[rv a1, iv (7 : Int32), iv p2] [(.int p2), (.int (7 : Int32)), (.ref a1)]) s1 EF := fun t k => pre9 t (by
   refine XS.aloadN X8.here hx rfl (B d14_44) rfl rfl ?_
   refine XS.iloadN X8.here hx rfl (B d14_45) rfl ?_
   exact XS.iloadN X8.here hx rfl (B d14_46) rfl k)
  obtain ⟨T12, X12, e12, st12⟩ := getS2 X8 hx hZ hown (host := "") (Or.inl (hw _ (mW 98 rfl))) Via.refl e8 (J0.2.2.2.2.2.1.ext O10.2) (g := (mkF m 47 #[rv a1, iv (7 : Int32), iv p2] [(.int p2), (.int (7 : Int32)), (.ref a1)])) rfl (B d14_47)
  have pre13 : Go p e bl T12 (mkF m 50 #[rv a1, iv (7 : Int32), iv p2] [(.int (8 : Int32)), (.int p2), (.int (7 : Int32)), (.ref a1)]) s1 EF := fun t k => pre11 t (st12 t k)
  have pre14 : Go p e bl T12 (mkF m 52 #[rv a1, iv (7 : Int32), iv p2] [(.int ((p2 >>> ((8 : Int32) &&& 31)).toInt8.toInt32)), (.int (7 : Int32)), (.ref a1)]) s1 EF := fun t k => pre13 t (by
   refine XS.ishr X12.here hx rfl (B d14_50) rfl ?_
   exact XS.i2b X12.here hx rfl (B d14_51) rfl k)
  obtain ⟨cl15, Ar15, q15, Sz15, M15, H15, G15⟩ := id V8
  have hin15 : ¬ ((7 : Int32) < 0 ∨ cl15.slots.size ≤ ((7 : Int32)).toNatClampNeg) := inb_of Sz15 ⟨by decide, hz1⟩
  obtain ⟨T15, h15, X15, e15, W15, st15⟩ := stB X12 hx hZ e12 Ar15 (j := (7 : Int32)) hin15 (g := (mkF m 52 #[rv a1, iv (7 : Int32), iv p2] [(.int ((p2 >>> ((8 : Int32) &&& 31)).toInt8.toInt32)), (.int (7 : Int32)), (.ref a1)])) rfl rfl (B d14_52)
  rw [own_i2b2] at W15
  have pre16 : Go p e bl T15 (mkF m 53 #[rv a1, iv (7 : Int32), iv p2] []) s1 EF := fun t k => pre14 t (st15 t k)
  have O17 : Old Z n0 h15 := O10.wr W15 g_a1
  have Z17 : n0 ≤ h15.size := Nat.le_trans Z10 (Keep.of_wr W15).1
  have K17 : Keep h0 h15 [a1] := K10.wr W15 (Or.inl (List.mem_of_getElem? (i := 0) rfl))
  have V15 : Arv Z h15 a1 k .byte z ((vs.set 6 (.int ((p2 >>> ((0 : Int32) &&& 31)).toInt8.toInt32))).set 7 (.int ((p2 >>> ((8 : Int32) &&& 31)).toInt8.toInt32))) (.int (0 : Int32)) := Arv.set Ar15 q15 Sz15 M15 H15 G15 (fits_nar_byte _) W15 7 rfl (by first | (simp only [List.length_set]; omega) | omega)
  have N15 := Fr.snoc X15 N8 g_a1
  exact fin1 X15 (v := none) (fun _ => rfl) hlk (wl rfl) (wl rfl) (by rw [e15]; exact ⟨rfl, N15, K17, V15⟩) (fun fs hr => hEF ▸ pre16 _ (X15.returnOut hx Bd.returns (B d14_53) hr))
abbrev rKKt4 : Room := { frames := 2, cells := 1, slots := 8, locals := 24 }
theorem efKt4 (m : MethodId) (a1 : Addr) : entryFrame m #[(.ref a1), (.int (0 : Int32)), (.int (4 : Int32))] 5 = mkF m 0 #[rv a1, iv (0 : Int32), iv (4 : Int32), .unset, .unset] [] := by first | (simp [entryFrame, mkF, argsToLocals, Value.category]; done) | rfl
def QKt4 (Z : State) (a1 : Addr) (cz : Int32) (fv : Value) (k1 : ClassId) (c0 : Int32) (c1 : Int32) (c2 : Int32) (c3 : Int32) (h0 : Heap) (n0 : Nat) (v : Option Value) (h : Heap) (L : List Loc) : Prop := ∃ b k, v = some (.ref b) ∧ Fr n0 L ∧ Keep h0 h [] ∧ h0.size ≤ b ∧ Arv Z h b k .byte (8 : Int32) [(.int (lo8 c0)), (.int (hi8 c0)), (.int (lo8 c1)), (.int (hi8 c1)), (.int (lo8 c2)), (.int (hi8 c2)), (.int (lo8 c3)), (.int (hi8 c3))] (.int (0 : Int32))
set_option maxRecDepth 65536 in
set_option maxHeartbeats 40000000 in
theorem rmKt4 (l : Launch) (Z : State) (a0 : Array Value) (hw : HW a0 Z) (ws : List Jvm.Cond) (a1 : Addr) (cz : Int32) (fv : Value) (k1 : ClassId) (c0 : Int32) (c1 : Int32) (c2 : Int32) (c3 : Int32) (h0 : Heap) (n0 : Nat) (Z0 : n0 ≤ h0.size) (O0 : Old Z n0 h0) (J0 : Jd Z cz fv) (V1 : Arv Z h0 a1 k1 .char (4 : Int32) [(.int c0), (.int c1), (.int c2), (.int c3)] (.int (0 : Int32))) :
    MF l Z mN15 jdk_52_method_14_code 5 (some (.array .byte)) ws rKKt4 #[(.ref a1), (.int (0 : Int32)), (.int (4 : Int32))] h0 (QKt4 Z a1 cz fv k1 c0 c1 c2 c3 h0 n0) := by
  refine MetFree.of_bodySF (plainFor_of_name pn3) hisR ?_
  intro p e s m args bl meth c s1 Bd hml0 hP hK
  obtain ⟨rfl, hZ, hh⟩ := hP
  have hx := Bd.exec
  have hby := Bd.bytes
  have B := @hb c _ hby
  have hM := fun {n : Nat} (h : n = 5) => h.trans hml0.symm
  have hown : s.vm.findClass "java/lang/StringUTF16" = some m.cls := findClass_of_methodNamed Bd.named
  have hlk : meth.locks = false := BodyLoose.notSynchronized Bd
  have hrt : ∀ {v : Option Value}, meth.sig.returnType = none → v = none := fun h => by rw [Bd.returns] at h; cases h
  have X0 : Stand p l e rKKt4 s m #[(.ref a1), (.int (0 : Int32)), (.int (4 : Int32))] bl meth c s1 [] 0 0 := Stand.of_body Bd
  have e0 : s1.heap = h0 := by rw [← hh, Bd.state]; rfl
  have N0 := Fr.nil n0
  obtain ⟨EF, hEF⟩ : ∃ f, f = entryFrame m #[(.ref a1), (.int (0 : Int32)), (.int (4 : Int32))] 5 := ⟨_, rfl⟩
  have pre0 : Go p e bl s1 (mkF m 0 #[rv a1, iv (0 : Int32), iv (4 : Int32), .unset, .unset] []) s1 EF := fun t k => by rw [hEF]; exact castTop (efKt4 m a1) k
  have pre1 : Go p e bl s1 (mkF m 1 #[rv a1, iv (0 : Int32), iv (4 : Int32), .unset, .unset] [(.int (4 : Int32))]) s1 EF := fun t k => pre0 t (by
   exact XS.iloadN X0.here hx rfl (B d15_0) rfl k)
  obtain ⟨_, _, ⟨T2, L2, k2, n2⟩, -, X2, ⟨Lc2, hQ2, l2, y2, z2⟩, st2⟩ := Jvm.LawKit.callS X0 hx (y := mN13) hown (mvT hZ (hw _ (mW 86 rfl))) (mvT hZ (hw _ (mW 87 rfl))) (mvT hZ (hw _ (mW 45 rfl))) (mvT hZ (hw _ (mW 88 rfl))) (by decide) (backOf (W := 0) (rmKf4 l Z a0 hw []  cz fv  h0 n0 Z0 O0 J0 ) hZ (hw _ (mW 88 rfl)) (hw _ (mW 45 rfl)) (by decide) (by decide)) (g := (mkF m 1 #[rv a1, iv (0 : Int32), iv (4 : Int32), .unset, .unset] [(.int (4 : Int32))])) rfl (hM rfl) (argsL := [(.int (4 : Int32))]) (rest := []) (lenOf pd8 rfl) rfl (Nat.le_of_eq rfl) (B d15_1) (fun _ _ => ⟨rfl, e0, wl rfl, wl rfl⟩)
  dsimp only [Pt.U, Pt.locs, Pt.cells, Pt.slots] at X2 l2 y2 z2 st2 hQ2
  subst l2 y2 z2
  obtain ⟨bt, kb2, rfl, N2q, K2, hsz2, VB2⟩ := hQ2
  have N2 := Fr.app N0 N2q
  have pre3 : Go p e bl T2 (mkF m 4 #[rv a1, iv (0 : Int32), iv (4 : Int32), .unset, .unset] [(.ref bt)]) s1 EF := fun t k => pre1 t (st2 t k)
  have O4 : Old Z n0 T2.heap := O0.keep K2 all0
  have Z4 : n0 ≤ T2.heap.size := Nat.le_trans Z0 K2.1
  have K4 : Keep h0 T2.heap [] := (Keep.refl h0 []).trans K2 all0
  have g_bt : n0 ≤ bt := Nat.le_trans Z0 hsz2
  have sz_bt : h0.size ≤ bt := Nat.le_trans (Keep.refl h0 []).1 hsz2
  have ne_a1_bt : a1 ≠ bt := Nat.ne_of_lt (Nat.lt_of_lt_of_le V1.lt hsz2)
  have pre5 : Go p e bl T2 (mkF m 11 #[rv a1, iv (0 : Int32), iv (4 : Int32), rv bt, iv (0 : Int32)] [(.int (4 : Int32)), (.int (0 : Int32))]) s1 EF := fun t k => pre3 t (by
   refine XS.astoreN X2.here hx rfl (B d15_4) rfl rfl (l' := #[rv a1, iv (0 : Int32), iv (4 : Int32), rv bt, .unset]) rfl ?_
   refine XS.iconst X2.here hx rfl (B d15_5) ?_
   refine XS.istore X2.here hx rfl (B d15_6) rfl (l' := #[rv a1, iv (0 : Int32), iv (4 : Int32), rv bt, iv (0 : Int32)]) rfl ?_
   refine XS.iload X2.here hx rfl (B d15_8) rfl ?_
   exact XS.iloadN X2.here hx rfl (B d15_10) rfl k)
  have pre6 : Go p e bl T2 (mkF m 14 #[rv a1, iv (0 : Int32), iv (4 : Int32), rv bt, iv (0 : Int32)] []) s1 EF := fun t k => pre5 t (XS.icmpNo X2.here hx rfl (B d15_11) rfl (tlt (by decide : (0 : Int32) < (4 : Int32))).2.1 k)
  have pre7 : Go p e bl T2 (mkF m 19 #[rv a1, iv (0 : Int32), iv (4 : Int32), rv bt, iv (0 : Int32)] [(.int (0 : Int32)), (.ref a1), (.int (0 : Int32)), (.ref bt)]) s1 EF := fun t k => pre6 t (by
   refine XS.aloadN X2.here hx rfl (B d15_14) rfl rfl ?_
   refine XS.iload X2.here hx rfl (B d15_15) rfl ?_
   refine XS.aloadN X2.here hx rfl (B d15_17) rfl rfl ?_
   exact XS.iloadN X2.here hx rfl (B d15_18) rfl k)
  obtain ⟨cl8, Ar8, q8, Sz8, M8, H8, G8⟩ := id (V1.keep K2 nin0)
  have hin8 : ¬ ((0 : Int32) < 0 ∨ cl8.slots.size ≤ ((0 : Int32)).toNatClampNeg) := inb_of Sz8 ⟨by decide, by decide⟩
  have hat8 : cl8.slots[((0 : Int32)).toNatClampNeg]? = some (.int c0) := Has.at H8 hin8 rfl
  have pre9 : Go p e bl T2 (mkF m 20 #[rv a1, iv (0 : Int32), iv (4 : Int32), rv bt, iv (0 : Int32)] [(.int c0), (.int (0 : Int32)), (.ref bt)]) s1 EF := fun t k => pre7 t (by
   exact X2.caload hx (j := (0 : Int32)) (v := (.int c0)) Ar8.1 (State.isArrayOf_alike hZ.alike Ar8.2.1) Ar8.2.2 hin8 hat8 (g := (mkF m 19 #[rv a1, iv (0 : Int32), iv (4 : Int32), rv bt, iv (0 : Int32)] [(.int (0 : Int32)), (.ref a1), (.int (0 : Int32)), (.ref bt)])) rfl rfl (B d15_19) _ k)
  obtain ⟨_, _, ⟨T10, L10, k10, n10⟩, -, X10, ⟨Lc10, hQ10, l10, y10, z10⟩, st10⟩ := Jvm.LawKit.callS X2 hx (y := mN14) hown (mvT hZ (hw _ (mW 93 rfl))) (mvT hZ (hw _ (mW 94 rfl))) (mvT hZ (hw _ (mW 45 rfl))) (mvT hZ (hw _ (mW 95 rfl))) (by decide) (backOf (W := 0) (rmKp0 l Z a0 hw [] bt c0 cz fv kb2 (8 : Int32) _ T2.heap n0 Z4 O4 J0 VB2 g_bt (by decide) (by decide) (Nat.le_of_ble_eq_true rfl)) hZ (hw _ (mW 95 rfl)) (hw _ (mW 45 rfl)) (by decide) (by decide)) (g := (mkF m 20 #[rv a1, iv (0 : Int32), iv (4 : Int32), rv bt, iv (0 : Int32)] [(.int c0), (.int (0 : Int32)), (.ref bt)])) rfl (hM rfl) (argsL := [(.ref bt), (.int (0 : Int32)), (.int c0)]) (rest := []) (lenOf pd9 rfl) rfl (Nat.le_of_eq rfl) (B d15_20) (fun _ _ => ⟨rfl, rfl, wl rfl, wl rfl⟩)
  dsimp only [Pt.U, Pt.locs, Pt.cells, Pt.slots] at X10 l10 y10 z10 st10 hQ10
  subst l10 y10 z10
  obtain ⟨rfl, N10q, K10, VQ10⟩ := hQ10
  have N10 := Fr.app N2 N10q
  have pre11 : Go p e bl T10 (mkF m 23 #[rv a1, iv (0 : Int32), iv (4 : Int32), rv bt, iv (0 : Int32)] []) s1 EF := fun t k => pre9 t (st10 t k)
  have O12 : Old Z n0 T10.heap := O4.keep K10 (allS g_bt all0)
  have Z12 : n0 ≤ T10.heap.size := Nat.le_trans Z4 K10.1
  have K12 : Keep h0 T10.heap [] := K4.trans K10 (allS (Or.inr sz_bt) all0)
  have VP10 : Arv Z T10.heap bt kb2 .byte (8 : Int32) [(.int (lo8 c0)), (.int (hi8 c0)), (.int (0 : Int32)), (.int (0 : Int32)), (.int (0 : Int32)), (.int (0 : Int32)), (.int (0 : Int32)), (.int (0 : Int32))] (.int (0 : Int32)) := VQ10
  have pre13 : Go p e bl T10 (mkF m 11 #[rv a1, iv (1 : Int32), iv (4 : Int32), rv bt, iv (1 : Int32)] [(.int (4 : Int32)), (.int (1 : Int32))]) s1 EF := fun t k => pre11 t (by
   refine XS.iinc X10.here hx rfl (B d15_23) rfl (l' := #[rv a1, iv (1 : Int32), iv (4 : Int32), rv bt, iv (0 : Int32)]) rfl ?_
   refine XS.iinc X10.here hx rfl (B d15_26) rfl (l' := #[rv a1, iv (1 : Int32), iv (4 : Int32), rv bt, iv (1 : Int32)]) rfl ?_
   refine XS.goto X10.here hx rfl (pc0 := 29) (pc' := 8) rfl (B d15_29) (by decide) (by decide) ?_
   refine XS.iload X10.here hx rfl (B d15_8) rfl ?_
   exact XS.iloadN X10.here hx rfl (B d15_10) rfl k)
  have pre14 : Go p e bl T10 (mkF m 14 #[rv a1, iv (1 : Int32), iv (4 : Int32), rv bt, iv (1 : Int32)] []) s1 EF := fun t k => pre13 t (XS.icmpNo X10.here hx rfl (B d15_11) rfl (tlt (by decide : (1 : Int32) < (4 : Int32))).2.1 k)
  have pre15 : Go p e bl T10 (mkF m 19 #[rv a1, iv (1 : Int32), iv (4 : Int32), rv bt, iv (1 : Int32)] [(.int (1 : Int32)), (.ref a1), (.int (1 : Int32)), (.ref bt)]) s1 EF := fun t k => pre14 t (by
   refine XS.aloadN X10.here hx rfl (B d15_14) rfl rfl ?_
   refine XS.iload X10.here hx rfl (B d15_15) rfl ?_
   refine XS.aloadN X10.here hx rfl (B d15_17) rfl rfl ?_
   exact XS.iloadN X10.here hx rfl (B d15_18) rfl k)
  obtain ⟨cl16, Ar16, q16, Sz16, M16, H16, G16⟩ := id ((V1.keep K2 nin0).keep K10 (ninS ne_a1_bt nin0))
  have hin16 : ¬ ((1 : Int32) < 0 ∨ cl16.slots.size ≤ ((1 : Int32)).toNatClampNeg) := inb_of Sz16 ⟨by decide, by decide⟩
  have hat16 : cl16.slots[((1 : Int32)).toNatClampNeg]? = some (.int c1) := Has.at H16 hin16 rfl
  have pre17 : Go p e bl T10 (mkF m 20 #[rv a1, iv (1 : Int32), iv (4 : Int32), rv bt, iv (1 : Int32)] [(.int c1), (.int (1 : Int32)), (.ref bt)]) s1 EF := fun t k => pre15 t (by
   exact X10.caload hx (j := (1 : Int32)) (v := (.int c1)) Ar16.1 (State.isArrayOf_alike hZ.alike Ar16.2.1) Ar16.2.2 hin16 hat16 (g := (mkF m 19 #[rv a1, iv (1 : Int32), iv (4 : Int32), rv bt, iv (1 : Int32)] [(.int (1 : Int32)), (.ref a1), (.int (1 : Int32)), (.ref bt)])) rfl rfl (B d15_19) _ k)
  obtain ⟨_, _, ⟨T18, L18, k18, n18⟩, -, X18, ⟨Lc18, hQ18, l18, y18, z18⟩, st18⟩ := Jvm.LawKit.callS X10 hx (y := mN14) hown (mvT hZ (hw _ (mW 93 rfl))) (mvT hZ (hw _ (mW 94 rfl))) (mvT hZ (hw _ (mW 45 rfl))) (mvT hZ (hw _ (mW 95 rfl))) (by decide) (backOf (W := 0) (rmKp1 l Z a0 hw [] bt c1 cz fv kb2 (8 : Int32) _ T10.heap n0 Z12 O12 J0 VP10 g_bt (by decide) (by decide) (Nat.le_of_ble_eq_true rfl)) hZ (hw _ (mW 95 rfl)) (hw _ (mW 45 rfl)) (by decide) (by decide)) (g := (mkF m 20 #[rv a1, iv (1 : Int32), iv (4 : Int32), rv bt, iv (1 : Int32)] [(.int c1), (.int (1 : Int32)), (.ref bt)])) rfl (hM rfl) (argsL := [(.ref bt), (.int (1 : Int32)), (.int c1)]) (rest := []) (lenOf pd9 rfl) rfl (Nat.le_of_eq rfl) (B d15_20) (fun _ _ => ⟨rfl, rfl, wl rfl, wl rfl⟩)
  dsimp only [Pt.U, Pt.locs, Pt.cells, Pt.slots] at X18 l18 y18 z18 st18 hQ18
  subst l18 y18 z18
  obtain ⟨rfl, N18q, K18, VQ18⟩ := hQ18
  have N18 := Fr.app N10 N18q
  have pre19 : Go p e bl T18 (mkF m 23 #[rv a1, iv (1 : Int32), iv (4 : Int32), rv bt, iv (1 : Int32)] []) s1 EF := fun t k => pre17 t (st18 t k)
  have O20 : Old Z n0 T18.heap := O12.keep K18 (allS g_bt all0)
  have Z20 : n0 ≤ T18.heap.size := Nat.le_trans Z12 K18.1
  have K20 : Keep h0 T18.heap [] := K12.trans K18 (allS (Or.inr sz_bt) all0)
  have VP18 : Arv Z T18.heap bt kb2 .byte (8 : Int32) [(.int (lo8 c0)), (.int (hi8 c0)), (.int (lo8 c1)), (.int (hi8 c1)), (.int (0 : Int32)), (.int (0 : Int32)), (.int (0 : Int32)), (.int (0 : Int32))] (.int (0 : Int32)) := VQ18
  have pre21 : Go p e bl T18 (mkF m 11 #[rv a1, iv (2 : Int32), iv (4 : Int32), rv bt, iv (2 : Int32)] [(.int (4 : Int32)), (.int (2 : Int32))]) s1 EF := fun t k => pre19 t (by
   refine XS.iinc X18.here hx rfl (B d15_23) rfl (l' := #[rv a1, iv (2 : Int32), iv (4 : Int32), rv bt, iv (1 : Int32)]) rfl ?_
   refine XS.iinc X18.here hx rfl (B d15_26) rfl (l' := #[rv a1, iv (2 : Int32), iv (4 : Int32), rv bt, iv (2 : Int32)]) rfl ?_
   refine XS.goto X18.here hx rfl (pc0 := 29) (pc' := 8) rfl (B d15_29) (by decide) (by decide) ?_
   refine XS.iload X18.here hx rfl (B d15_8) rfl ?_
   exact XS.iloadN X18.here hx rfl (B d15_10) rfl k)
  have pre22 : Go p e bl T18 (mkF m 14 #[rv a1, iv (2 : Int32), iv (4 : Int32), rv bt, iv (2 : Int32)] []) s1 EF := fun t k => pre21 t (XS.icmpNo X18.here hx rfl (B d15_11) rfl (tlt (by decide : (2 : Int32) < (4 : Int32))).2.1 k)
  have pre23 : Go p e bl T18 (mkF m 19 #[rv a1, iv (2 : Int32), iv (4 : Int32), rv bt, iv (2 : Int32)] [(.int (2 : Int32)), (.ref a1), (.int (2 : Int32)), (.ref bt)]) s1 EF := fun t k => pre22 t (by
   refine XS.aloadN X18.here hx rfl (B d15_14) rfl rfl ?_
   refine XS.iload X18.here hx rfl (B d15_15) rfl ?_
   refine XS.aloadN X18.here hx rfl (B d15_17) rfl rfl ?_
   exact XS.iloadN X18.here hx rfl (B d15_18) rfl k)
  obtain ⟨cl24, Ar24, q24, Sz24, M24, H24, G24⟩ := id (((V1.keep K2 nin0).keep K10 (ninS ne_a1_bt nin0)).keep K18 (ninS ne_a1_bt nin0))
  have hin24 : ¬ ((2 : Int32) < 0 ∨ cl24.slots.size ≤ ((2 : Int32)).toNatClampNeg) := inb_of Sz24 ⟨by decide, by decide⟩
  have hat24 : cl24.slots[((2 : Int32)).toNatClampNeg]? = some (.int c2) := Has.at H24 hin24 rfl
  have pre25 : Go p e bl T18 (mkF m 20 #[rv a1, iv (2 : Int32), iv (4 : Int32), rv bt, iv (2 : Int32)] [(.int c2), (.int (2 : Int32)), (.ref bt)]) s1 EF := fun t k => pre23 t (by
   exact X18.caload hx (j := (2 : Int32)) (v := (.int c2)) Ar24.1 (State.isArrayOf_alike hZ.alike Ar24.2.1) Ar24.2.2 hin24 hat24 (g := (mkF m 19 #[rv a1, iv (2 : Int32), iv (4 : Int32), rv bt, iv (2 : Int32)] [(.int (2 : Int32)), (.ref a1), (.int (2 : Int32)), (.ref bt)])) rfl rfl (B d15_19) _ k)
  obtain ⟨_, _, ⟨T26, L26, k26, n26⟩, -, X26, ⟨Lc26, hQ26, l26, y26, z26⟩, st26⟩ := Jvm.LawKit.callS X18 hx (y := mN14) hown (mvT hZ (hw _ (mW 93 rfl))) (mvT hZ (hw _ (mW 94 rfl))) (mvT hZ (hw _ (mW 45 rfl))) (mvT hZ (hw _ (mW 95 rfl))) (by decide) (backOf (W := 0) (rmKp2 l Z a0 hw [] bt c2 cz fv kb2 (8 : Int32) _ T18.heap n0 Z20 O20 J0 VP18 g_bt (by decide) (by decide) (Nat.le_of_ble_eq_true rfl)) hZ (hw _ (mW 95 rfl)) (hw _ (mW 45 rfl)) (by decide) (by decide)) (g := (mkF m 20 #[rv a1, iv (2 : Int32), iv (4 : Int32), rv bt, iv (2 : Int32)] [(.int c2), (.int (2 : Int32)), (.ref bt)])) rfl (hM rfl) (argsL := [(.ref bt), (.int (2 : Int32)), (.int c2)]) (rest := []) (lenOf pd9 rfl) rfl (Nat.le_of_eq rfl) (B d15_20) (fun _ _ => ⟨rfl, rfl, wl rfl, wl rfl⟩)
  dsimp only [Pt.U, Pt.locs, Pt.cells, Pt.slots] at X26 l26 y26 z26 st26 hQ26
  subst l26 y26 z26
  obtain ⟨rfl, N26q, K26, VQ26⟩ := hQ26
  have N26 := Fr.app N18 N26q
  have pre27 : Go p e bl T26 (mkF m 23 #[rv a1, iv (2 : Int32), iv (4 : Int32), rv bt, iv (2 : Int32)] []) s1 EF := fun t k => pre25 t (st26 t k)
  have O28 : Old Z n0 T26.heap := O20.keep K26 (allS g_bt all0)
  have Z28 : n0 ≤ T26.heap.size := Nat.le_trans Z20 K26.1
  have K28 : Keep h0 T26.heap [] := K20.trans K26 (allS (Or.inr sz_bt) all0)
  have VP26 : Arv Z T26.heap bt kb2 .byte (8 : Int32) [(.int (lo8 c0)), (.int (hi8 c0)), (.int (lo8 c1)), (.int (hi8 c1)), (.int (lo8 c2)), (.int (hi8 c2)), (.int (0 : Int32)), (.int (0 : Int32))] (.int (0 : Int32)) := VQ26
  have pre29 : Go p e bl T26 (mkF m 11 #[rv a1, iv (3 : Int32), iv (4 : Int32), rv bt, iv (3 : Int32)] [(.int (4 : Int32)), (.int (3 : Int32))]) s1 EF := fun t k => pre27 t (by
   refine XS.iinc X26.here hx rfl (B d15_23) rfl (l' := #[rv a1, iv (3 : Int32), iv (4 : Int32), rv bt, iv (2 : Int32)]) rfl ?_
   refine XS.iinc X26.here hx rfl (B d15_26) rfl (l' := #[rv a1, iv (3 : Int32), iv (4 : Int32), rv bt, iv (3 : Int32)]) rfl ?_
   refine XS.goto X26.here hx rfl (pc0 := 29) (pc' := 8) rfl (B d15_29) (by decide) (by decide) ?_
   refine XS.iload X26.here hx rfl (B d15_8) rfl ?_
   exact XS.iloadN X26.here hx rfl (B d15_10) rfl k)
  have pre30 : Go p e bl T26 (mkF m 14 #[rv a1, iv (3 : Int32), iv (4 : Int32), rv bt, iv (3 : Int32)] []) s1 EF := fun t k => pre29 t (XS.icmpNo X26.here hx rfl (B d15_11) rfl (tlt (by decide : (3 : Int32) < (4 : Int32))).2.1 k)
  have pre31 : Go p e bl T26 (mkF m 19 #[rv a1, iv (3 : Int32), iv (4 : Int32), rv bt, iv (3 : Int32)] [(.int (3 : Int32)), (.ref a1), (.int (3 : Int32)), (.ref bt)]) s1 EF := fun t k => pre30 t (by
   refine XS.aloadN X26.here hx rfl (B d15_14) rfl rfl ?_
   refine XS.iload X26.here hx rfl (B d15_15) rfl ?_
   refine XS.aloadN X26.here hx rfl (B d15_17) rfl rfl ?_
   exact XS.iloadN X26.here hx rfl (B d15_18) rfl k)
  obtain ⟨cl32, Ar32, q32, Sz32, M32, H32, G32⟩ := id ((((V1.keep K2 nin0).keep K10 (ninS ne_a1_bt nin0)).keep K18 (ninS ne_a1_bt nin0)).keep K26 (ninS ne_a1_bt nin0))
  have hin32 : ¬ ((3 : Int32) < 0 ∨ cl32.slots.size ≤ ((3 : Int32)).toNatClampNeg) := inb_of Sz32 ⟨by decide, by decide⟩
  have hat32 : cl32.slots[((3 : Int32)).toNatClampNeg]? = some (.int c3) := Has.at H32 hin32 rfl
  have pre33 : Go p e bl T26 (mkF m 20 #[rv a1, iv (3 : Int32), iv (4 : Int32), rv bt, iv (3 : Int32)] [(.int c3), (.int (3 : Int32)), (.ref bt)]) s1 EF := fun t k => pre31 t (by
   exact X26.caload hx (j := (3 : Int32)) (v := (.int c3)) Ar32.1 (State.isArrayOf_alike hZ.alike Ar32.2.1) Ar32.2.2 hin32 hat32 (g := (mkF m 19 #[rv a1, iv (3 : Int32), iv (4 : Int32), rv bt, iv (3 : Int32)] [(.int (3 : Int32)), (.ref a1), (.int (3 : Int32)), (.ref bt)])) rfl rfl (B d15_19) _ k)
  obtain ⟨_, _, ⟨T34, L34, k34, n34⟩, -, X34, ⟨Lc34, hQ34, l34, y34, z34⟩, st34⟩ := Jvm.LawKit.callS X26 hx (y := mN14) hown (mvT hZ (hw _ (mW 93 rfl))) (mvT hZ (hw _ (mW 94 rfl))) (mvT hZ (hw _ (mW 45 rfl))) (mvT hZ (hw _ (mW 95 rfl))) (by decide) (backOf (W := 0) (rmKp3 l Z a0 hw [] bt c3 cz fv kb2 (8 : Int32) _ T26.heap n0 Z28 O28 J0 VP26 g_bt (by decide) (by decide) (Nat.le_of_ble_eq_true rfl)) hZ (hw _ (mW 95 rfl)) (hw _ (mW 45 rfl)) (by decide) (by decide)) (g := (mkF m 20 #[rv a1, iv (3 : Int32), iv (4 : Int32), rv bt, iv (3 : Int32)] [(.int c3), (.int (3 : Int32)), (.ref bt)])) rfl (hM rfl) (argsL := [(.ref bt), (.int (3 : Int32)), (.int c3)]) (rest := []) (lenOf pd9 rfl) rfl (Nat.le_of_eq rfl) (B d15_20) (fun _ _ => ⟨rfl, rfl, wl rfl, wl rfl⟩)
  dsimp only [Pt.U, Pt.locs, Pt.cells, Pt.slots] at X34 l34 y34 z34 st34 hQ34
  subst l34 y34 z34
  obtain ⟨rfl, N34q, K34, VQ34⟩ := hQ34
  have N34 := Fr.app N26 N34q
  have pre35 : Go p e bl T34 (mkF m 23 #[rv a1, iv (3 : Int32), iv (4 : Int32), rv bt, iv (3 : Int32)] []) s1 EF := fun t k => pre33 t (st34 t k)
  have O36 : Old Z n0 T34.heap := O28.keep K34 (allS g_bt all0)
  have Z36 : n0 ≤ T34.heap.size := Nat.le_trans Z28 K34.1
  have K36 : Keep h0 T34.heap [] := K28.trans K34 (allS (Or.inr sz_bt) all0)
  have VP34 : Arv Z T34.heap bt kb2 .byte (8 : Int32) [(.int (lo8 c0)), (.int (hi8 c0)), (.int (lo8 c1)), (.int (hi8 c1)), (.int (lo8 c2)), (.int (hi8 c2)), (.int (lo8 c3)), (.int (hi8 c3))] (.int (0 : Int32)) := VQ34
  have pre37 : Go p e bl T34 (mkF m 11 #[rv a1, iv (4 : Int32), iv (4 : Int32), rv bt, iv (4 : Int32)] [(.int (4 : Int32)), (.int (4 : Int32))]) s1 EF := fun t k => pre35 t (by
   refine XS.iinc X34.here hx rfl (B d15_23) rfl (l' := #[rv a1, iv (4 : Int32), iv (4 : Int32), rv bt, iv (3 : Int32)]) rfl ?_
   refine XS.iinc X34.here hx rfl (B d15_26) rfl (l' := #[rv a1, iv (4 : Int32), iv (4 : Int32), rv bt, iv (4 : Int32)]) rfl ?_
   refine XS.goto X34.here hx rfl (pc0 := 29) (pc' := 8) rfl (B d15_29) (by decide) (by decide) ?_
   refine XS.iload X34.here hx rfl (B d15_8) rfl ?_
   exact XS.iloadN X34.here hx rfl (B d15_10) rfl k)
  have pre38 : Go p e bl T34 (mkF m 32 #[rv a1, iv (4 : Int32), iv (4 : Int32), rv bt, iv (4 : Int32)] []) s1 EF := fun t k => pre37 t (XS.icmpYes X34.here hx rfl (pc0 := 11) (pc' := 32) rfl (B d15_11) rfl (flt (by decide : ¬ ((4 : Int32) < (4 : Int32)))).2.1 (by decide) (by decide) k)
  have pre39 : Go p e bl T34 (mkF m 33 #[rv a1, iv (4 : Int32), iv (4 : Int32), rv bt, iv (4 : Int32)] [(.ref bt)]) s1 EF := fun t k => pre38 t (by
   exact XS.aloadN X34.here hx rfl (B d15_32) rfl rfl k)
  exact fin1 X34 (v := some (.ref bt)) hrt hlk (wl rfl) (wl rfl) (by exact ⟨_, _, rfl, N34, K36, sz_bt, VP34⟩) (fun fs hr => hEF ▸ pre39 _ (retOut X34 hx Bd.returns rfl (Or.inr (Or.inr (Or.inr (Or.inr ⟨rfl, rfl, rfl⟩)))) (B d15_33) hr))
abbrev rKKb4 : Room := { frames := 3, cells := 2, slots := 12, locals := 40 }
theorem efKb4 (m : MethodId) (a1 : Addr) : entryFrame m #[(.ref a1), (.int (0 : Int32)), (.int (4 : Int32))] 6 = mkF m 0 #[rv a1, iv (0 : Int32), iv (4 : Int32), .unset, .unset, .unset] [] := by first | (simp [entryFrame, mkF, argsToLocals, Value.category]; done) | rfl
def QKb4 (Z : State) (a1 : Addr) (cz : Int32) (fv : Value) (k1 : ClassId) (c0 : Int32) (c1 : Int32) (c2 : Int32) (c3 : Int32) (h0 : Heap) (n0 : Nat) (v : Option Value) (h : Heap) (L : List Loc) : Prop := (∃ b k, v = some (.ref b) ∧ Fr n0 L ∧ Keep h0 h [] ∧ h0.size ≤ b ∧ (∀ c ∈ [c0, c1, c2, c3], ¬ (255 : Int32) < c) ∧ Arv Z h b k .byte (4 : Int32) [(.int (c0.toInt8.toInt32)), (.int (c1.toInt8.toInt32)), (.int (c2.toInt8.toInt32)), (.int (c3.toInt8.toInt32))] (.int (0 : Int32))) ∨ (∃ b k, v = some (.ref b) ∧ Fr n0 L ∧ Keep h0 h [] ∧ h0.size ≤ b ∧ Arv Z h b k .byte (8 : Int32) [(.int (lo8 c0)), (.int (hi8 c0)), (.int (lo8 c1)), (.int (hi8 c1)), (.int (lo8 c2)), (.int (hi8 c2)), (.int (lo8 c3)), (.int (hi8 c3))] (.int (0 : Int32)))
set_option maxRecDepth 65536 in
set_option maxHeartbeats 40000000 in
theorem rmKb4 (l : Launch) (Z : State) (a0 : Array Value) (hw : HW a0 Z) (ws : List Jvm.Cond) (a1 : Addr) (cz : Int32) (fv : Value) (k1 : ClassId) (c0 : Int32) (c1 : Int32) (c2 : Int32) (c3 : Int32) (h0 : Heap) (n0 : Nat) (Z0 : n0 ≤ h0.size) (O0 : Old Z n0 h0) (J0 : Jd Z cz fv) (V1 : Arv Z h0 a1 k1 .char (4 : Int32) [(.int c0), (.int c1), (.int c2), (.int c3)] (.int (0 : Int32))) (hrg : ∀ c ∈ [c0, c1, c2, c3], 0 ≤ c.toInt ∧ c.toInt < 65536) :
    MF l Z mN16 jdk_52_method_16_code 6 (some (.array .byte)) ws rKKb4 #[(.ref a1), (.int (0 : Int32)), (.int (4 : Int32))] h0 (QKb4 Z a1 cz fv k1 c0 c1 c2 c3 h0 n0) := by
  refine MetFree.of_bodySF (plainFor_of_name pn3) hisR ?_
  intro p e s m args bl meth c s1 Bd hml0 hP hK
  obtain ⟨rfl, hZ, hh⟩ := hP
  have hx := Bd.exec
  have hby := Bd.bytes
  have B := @hb c _ hby
  have hM := fun {n : Nat} (h : n = 6) => h.trans hml0.symm
  have hown : s.vm.findClass "java/lang/StringUTF16" = some m.cls := findClass_of_methodNamed Bd.named
  have hlk : meth.locks = false := BodyLoose.notSynchronized Bd
  have hrt : ∀ {v : Option Value}, meth.sig.returnType = none → v = none := fun h => by rw [Bd.returns] at h; cases h
  have X0 : Stand p l e rKKb4 s m #[(.ref a1), (.int (0 : Int32)), (.int (4 : Int32))] bl meth c s1 [] 0 0 := Stand.of_body Bd
  have e0 : s1.heap = h0 := by rw [← hh, Bd.state]; rfl
  have N0 := Fr.nil n0
  obtain ⟨EF, hEF⟩ : ∃ f, f = entryFrame m #[(.ref a1), (.int (0 : Int32)), (.int (4 : Int32))] 6 := ⟨_, rfl⟩
  have pre0 : Go p e bl s1 (mkF m 0 #[rv a1, iv (0 : Int32), iv (4 : Int32), .unset, .unset, .unset] []) s1 EF := fun t k => by rw [hEF]; exact castTop (efKb4 m a1) k
  have pre1 : Go p e bl s1 (mkF m 1 #[rv a1, iv (0 : Int32), iv (4 : Int32), .unset, .unset, .unset] [(.int (4 : Int32))]) s1 EF := fun t k => pre0 t (by
   exact XS.iloadN X0.here hx rfl (B d16_0) rfl k)
  obtain ⟨T2, h2, k2, X2, e2, Et2, A2, st2⟩ := newP X0 hx hZ (hw _ (mW 21 rfl)) e0 (g := (mkF m 1 #[rv a1, iv (0 : Int32), iv (4 : Int32), .unset, .unset, .unset] [(.int (4 : Int32))])) rfl (B d16_1) rfl (by decide) (cap := 4) (by decide) (by decide) (by decide) (by decide)
  obtain ⟨b2, g2⟩ : ∃ z, z = h0.size := ⟨_, rfl⟩
  rw [← g2] at A2 st2
  have g_b2 : n0 ≤ b2 := Nat.le_trans Z0 (Nat.le_of_eq g2.symm)
  have sz_b2 : h0.size ≤ b2 := Nat.le_trans (Keep.refl h0 []).1 (Nat.le_of_eq g2.symm)
  have ne_a1_b2 : a1 ≠ b2 := Nat.ne_of_lt (Nat.lt_of_lt_of_le V1.lt (Nat.le_of_eq g2.symm))
  have pre3 : Go p e bl T2 (mkF m 3 #[rv a1, iv (0 : Int32), iv (4 : Int32), .unset, .unset, .unset] [(.ref b2)]) s1 EF := fun t k => pre1 t (st2 t k)
  have O4 : Old Z n0 h2 := O0.ext Et2
  have Z4 : n0 ≤ h2.size := Nat.le_trans Z0 Et2.1
  have K4 : Keep h0 h2 [] := (Keep.refl h0 []).ext Et2
  have V2 : Arv Z h2 b2 k2 .byte (4 : Int32) [(.int (0 : Int32)), (.int (0 : Int32)), (.int (0 : Int32)), (.int (0 : Int32))] (.int (0 : Int32)) := (Arv.new A2 (by decide)).pad (pad_rep [] (.int (0 : Int32)) 4)
  have pre5 : Go p e bl T2 (mkF m 9 #[rv a1, iv (0 : Int32), iv (4 : Int32), rv b2, .unset, .unset] [(.int (4 : Int32)), (.int (0 : Int32)), (.ref b2), (.int (0 : Int32)), (.ref a1)]) s1 EF := fun t k => pre3 t (by
   refine XS.astoreN X2.here hx rfl (B d16_3) rfl rfl (l' := #[rv a1, iv (0 : Int32), iv (4 : Int32), rv b2, .unset, .unset]) rfl ?_
   refine XS.aloadN X2.here hx rfl (B d16_4) rfl rfl ?_
   refine XS.iloadN X2.here hx rfl (B d16_5) rfl ?_
   refine XS.aloadN X2.here hx rfl (B d16_6) rfl rfl ?_
   refine XS.iconst X2.here hx rfl (B d16_7) ?_
   exact XS.iloadN X2.here hx rfl (B d16_8) rfl k)
  obtain ⟨_, _, ⟨T6, L6, k6, n6⟩, -, X6, ⟨Lc6, hQ6, l6, y6, z6⟩, st6⟩ := Jvm.LawKit.callS X2 hx (y := mN11) hown (mvT hZ (hw _ (mW 47 rfl))) (mvT hZ (hw _ (mW 48 rfl))) (mvT hZ (hw _ (mW 45 rfl))) (mvT hZ (hw _ (mW 49 rfl))) (by decide) (backOf (W := 0) (rmKa4 l Z a0 hw [] a1 b2 cz fv k1 k2 c0 c1 c2 c3 h2 n0 Z4 O4 J0 (V1.ext Et2) V2 ne_a1_b2 g_b2) hZ (hw _ (mW 49 rfl)) (hw _ (mW 45 rfl)) (by decide) (by decide)) (g := (mkF m 9 #[rv a1, iv (0 : Int32), iv (4 : Int32), rv b2, .unset, .unset] [(.int (4 : Int32)), (.int (0 : Int32)), (.ref b2), (.int (0 : Int32)), (.ref a1)])) rfl (hM rfl) (argsL := [(.ref a1), (.int (0 : Int32)), (.ref b2), (.int (0 : Int32)), (.int (4 : Int32))]) (rest := []) (lenOf pd10 rfl) rfl (Nat.le_of_eq rfl) (B d16_9) (fun _ _ => ⟨rfl, e2, wl rfl, wl rfl⟩)
  dsimp only [Pt.U, Pt.locs, Pt.cells, Pt.slots] at X6 l6 y6 z6 st6 hQ6
  subst l6 y6 z6
  rcases hQ6 with ⟨rfl, N6q, K6, LE6, VL6⟩ | ⟨iB, cB, rfl, N6q, K6, hi06, hni6, hci6, hgt6⟩
  · have N6 := Fr.app N0 N6q
    have pre7 : Go p e bl T6 (mkF m 12 #[rv a1, iv (0 : Int32), iv (4 : Int32), rv b2, .unset, .unset] [(.int (4 : Int32))]) s1 EF := fun t k => pre5 t (st6 t k)
    have O8 : Old Z n0 T6.heap := O4.keep K6 (allS g_b2 all0)
    have Z8 : n0 ≤ T6.heap.size := Nat.le_trans Z4 K6.1
    have K8 : Keep h0 T6.heap [] := K4.trans K6 (allS (Or.inr sz_b2) all0)
    have pre9 : Go p e bl T6 (mkF m 17 #[rv a1, iv (0 : Int32), iv (4 : Int32), rv b2, iv (4 : Int32), .unset] [(.int (4 : Int32)), (.int (4 : Int32))]) s1 EF := fun t k => pre7 t (by
     refine XS.istore X6.here hx rfl (B d16_12) rfl (l' := #[rv a1, iv (0 : Int32), iv (4 : Int32), rv b2, iv (4 : Int32), .unset]) rfl ?_
     refine XS.iload X6.here hx rfl (B d16_14) rfl ?_
     exact XS.iloadN X6.here hx rfl (B d16_16) rfl k)
    have pre10 : Go p e bl T6 (mkF m 57 #[rv a1, iv (0 : Int32), iv (4 : Int32), rv b2, iv (4 : Int32), .unset] []) s1 EF := fun t k => pre9 t (XS.icmpYes X6.here hx rfl (pc0 := 17) (pc' := 57) rfl (B d16_17) rfl (teq (by decide : (4 : Int32) = (4 : Int32))).1 (by decide) (by decide) k)
    have pre11 : Go p e bl T6 (mkF m 58 #[rv a1, iv (0 : Int32), iv (4 : Int32), rv b2, iv (4 : Int32), .unset] [(.ref b2)]) s1 EF := fun t k => pre10 t (by
     exact XS.aloadN X6.here hx rfl (B d16_57) rfl rfl k)
    exact fin1 X6 (v := some (.ref b2)) hrt hlk (wl rfl) (wl rfl) (by exact Or.inl ⟨_, _, rfl, N6, K8, sz_b2, LE6, VL6⟩) (fun fs hr => hEF ▸ pre11 _ (retOut X6 hx Bd.returns rfl (Or.inr (Or.inr (Or.inr (Or.inr ⟨rfl, rfl, rfl⟩)))) (B d16_58) hr))
  have N6 := Fr.app N0 N6q
  have pre12 : Go p e bl T6 (mkF m 12 #[rv a1, iv (0 : Int32), iv (4 : Int32), rv b2, .unset, .unset] [(.int iB)]) s1 EF := fun t k => pre5 t (st6 t k)
  have O13 : Old Z n0 T6.heap := O4.keep K6 (allS g_b2 all0)
  have Z13 : n0 ≤ T6.heap.size := Nat.le_trans Z4 K6.1
  have K13 : Keep h0 T6.heap [] := K4.trans K6 (allS (Or.inr sz_b2) all0)
  have pre14 : Go p e bl T6 (mkF m 17 #[rv a1, iv (0 : Int32), iv (4 : Int32), rv b2, iv iB, .unset] [(.int (4 : Int32)), (.int iB)]) s1 EF := fun t k => pre12 t (by
   refine XS.istore X6.here hx rfl (B d16_12) rfl (l' := #[rv a1, iv (0 : Int32), iv (4 : Int32), rv b2, iv iB, .unset]) rfl ?_
   refine XS.iload X6.here hx rfl (B d16_14) rfl ?_
   exact XS.iloadN X6.here hx rfl (B d16_16) rfl k)
  have pre15 : Go p e bl T6 (mkF m 20 #[rv a1, iv (0 : Int32), iv (4 : Int32), rv b2, iv iB, .unset] []) s1 EF := fun t k => pre14 t (XS.icmpNo X6.here hx rfl (B d16_17) rfl (feq hni6).1 k)
  have pre16 : Go p e bl T6 (mkF m 23 #[rv a1, iv (0 : Int32), iv (4 : Int32), rv b2, iv iB, .unset] [(.int (4 : Int32)), (.int (0 : Int32)), (.ref a1)]) s1 EF := fun t k => pre15 t (by
   refine XS.aloadN X6.here hx rfl (B d16_20) rfl rfl ?_
   refine XS.iloadN X6.here hx rfl (B d16_21) rfl ?_
   exact XS.iloadN X6.here hx rfl (B d16_22) rfl k)
  obtain ⟨_, _, ⟨T17, L17, k17, n17⟩, -, X17, ⟨Lc17, hQ17, l17, y17, z17⟩, st17⟩ := Jvm.LawKit.callS X6 hx (y := mN15) hown (mvT hZ (hw _ (mW 83 rfl))) (mvT hZ (hw _ (mW 84 rfl))) (mvT hZ (hw _ (mW 45 rfl))) (mvT hZ (hw _ (mW 85 rfl))) (by decide) (backOf (W := 0) (rmKt4 l Z a0 hw [] a1 cz fv k1 c0 c1 c2 c3 T6.heap n0 Z13 O13 J0 ((V1.ext Et2).keep K6 (ninS ne_a1_b2 nin0))) hZ (hw _ (mW 85 rfl)) (hw _ (mW 45 rfl)) (by decide) (by decide)) (g := (mkF m 23 #[rv a1, iv (0 : Int32), iv (4 : Int32), rv b2, iv iB, .unset] [(.int (4 : Int32)), (.int (0 : Int32)), (.ref a1)])) rfl (hM rfl) (argsL := [(.ref a1), (.int (0 : Int32)), (.int (4 : Int32))]) (rest := []) (lenOf pd11 rfl) rfl (Nat.le_of_eq rfl) (B d16_23) (fun _ _ => ⟨rfl, rfl, wl rfl, wl rfl⟩)
  dsimp only [Pt.U, Pt.locs, Pt.cells, Pt.slots] at X17 l17 y17 z17 st17 hQ17
  subst l17 y17 z17
  obtain ⟨bw, kb17, rfl, N17q, K17, hsz17, VB17⟩ := hQ17
  have N17 := Fr.app N6 N17q
  have pre18 : Go p e bl T17 (mkF m 26 #[rv a1, iv (0 : Int32), iv (4 : Int32), rv b2, iv iB, .unset] [(.ref bw)]) s1 EF := fun t k => pre16 t (st17 t k)
  have O19 : Old Z n0 T17.heap := O13.keep K17 all0
  have Z19 : n0 ≤ T17.heap.size := Nat.le_trans Z13 K17.1
  have K19 : Keep h0 T17.heap [] := K13.trans K17 all0
  have g_bw : n0 ≤ bw := Nat.le_trans Z13 hsz17
  have sz_bw : h0.size ≤ bw := Nat.le_trans K13.1 hsz17
  have ne_a1_bw : a1 ≠ bw := Nat.ne_of_lt (Nat.lt_of_lt_of_le ((V1.ext Et2).keep K6 (ninS ne_a1_b2 nin0)).lt hsz17)
  have pre20 : Go p e bl T17 (mkF m 32 #[rv a1, iv (0 : Int32), iv (4 : Int32), rv b2, iv iB, rv bw] [(.int iB), (.ref bw)]) s1 EF := fun t k => pre18 t (by
   refine XS.astore X17.here hx rfl (B d16_26) rfl rfl (l' := #[rv a1, iv (0 : Int32), iv (4 : Int32), rv b2, iv iB, rv bw]) rfl ?_
   refine XS.aload X17.here hx rfl (B d16_28) rfl rfl ?_
   exact XS.iload X17.here hx rfl (B d16_30) rfl k)
  have hrB := hrg cB (List.mem_of_getElem? hci6)
  have hgB := own_gx (cs := [c0, c1, c2, c3]) (z := (8 : Int32)) hi06 hci6 (by rfl) (Nat.le_of_ble_eq_true rfl)
  obtain ⟨_, _, ⟨T21, L21, k21, n21⟩, -, X21, ⟨Lc21, hQ21, l21, y21, z21⟩, st21⟩ := Jvm.LawKit.callS X17 hx (y := mN8) hown (mvT hZ (hw _ (mW 99 rfl))) (mvT hZ (hw _ (mW 100 rfl))) (mvT hZ (hw _ (mW 45 rfl))) (mvT hZ (hw _ (mW 101 rfl))) (by decide) (backOf (W := 0) (rmJgc l Z a0 hw [] bw iB cz fv kb17 (8 : Int32) _ cB cB T17.heap n0 Z19 O19 J0 VB17 hgB.1 hgB.2.1 hgB.2.2.1 hgB.2.2.2 hrB.1 hrB.2 rfl) hZ (hw _ (mW 101 rfl)) (hw _ (mW 45 rfl)) (by decide) (by decide)) (g := (mkF m 32 #[rv a1, iv (0 : Int32), iv (4 : Int32), rv b2, iv iB, rv bw] [(.int iB), (.ref bw)])) rfl (hM rfl) (argsL := [(.ref bw), (.int iB)]) (rest := []) (lenOf pd5 rfl) rfl (Nat.le_of_eq rfl) (B d16_32) (fun _ _ => ⟨rfl, rfl, wl rfl, wl rfl⟩)
  dsimp only [Pt.U, Pt.locs, Pt.cells, Pt.slots] at X21 l21 y21 z21 st21 hQ21
  subst l21 y21 z21
  obtain ⟨rfl, N21q, hq21⟩ := hQ21
  have N21 := Fr.app N17 N21q
  have pre22 : Go p e bl T21 (mkF m 35 #[rv a1, iv (0 : Int32), iv (4 : Int32), rv b2, iv iB, rv bw] [(.int cB)]) s1 EF := fun t k => pre20 t (st21 t k)
  have e21 : T21.heap = T17.heap := hq21
  have pre23 : Go p e bl T21 (mkF m 38 #[rv a1, iv (0 : Int32), iv (4 : Int32), rv b2, iv iB, rv bw] [(.int (255 : Int32)), (.int cB)]) s1 EF := fun t k => pre22 t (by
   exact XS.sipush X21.here hx rfl (B d16_35) k)
  have pre24 : Go p e bl T21 (mkF m 54 #[rv a1, iv (0 : Int32), iv (4 : Int32), rv b2, iv iB, rv bw] []) s1 EF := fun t k => pre23 t (XS.icmpYes X21.here hx rfl (pc0 := 38) (pc' := 54) rfl (B d16_38) rfl (tlt hgt6).2.2.1 (by decide) (by decide) k)
  have pre25 : Go p e bl T21 (mkF m 56 #[rv a1, iv (0 : Int32), iv (4 : Int32), rv b2, iv iB, rv bw] [(.ref bw)]) s1 EF := fun t k => pre24 t (by
   exact XS.aload X21.here hx rfl (B d16_54) rfl rfl k)
  exact fin1 X21 (v := some (.ref bw)) hrt hlk (wl rfl) (wl rfl) (by rw [e21]; exact Or.inr ⟨_, _, rfl, N21, K19, sz_bw, VB17⟩) (fun fs hr => hEF ▸ pre25 _ (retOut X21 hx Bd.returns rfl (Or.inr (Or.inr (Or.inr (Or.inr ⟨rfl, rfl, rfl⟩)))) (B d16_56) hr))
abbrev rKKc4_0 : Room := { frames := 0, cells := 0, slots := 0, locals := 0 }
theorem efKc4_0 (m : MethodId) (a1 : Addr) : entryFrame m #[(.ref a1), (.int (4 : Int32))] 2 = mkF m 0 #[rv a1, iv (4 : Int32)] [] := by first | (simp [entryFrame, mkF, argsToLocals, Value.category]; done) | rfl
def QKc4_0 (Z : State) (a1 : Addr) (cz : Int32) (fv : Value) (k : ClassId) (vs : List Value) (h0 : Heap) (n0 : Nat) (v : Option Value) (h : Heap) (L : List Loc) : Prop := v = some (.int (0 : Int32)) ∧ Fr n0 L ∧ h = h0
set_option maxRecDepth 65536 in
set_option maxHeartbeats 40000000 in
theorem rmKc4_0 (l : Launch) (Z : State) (a0 : Array Value) (hw : HW a0 Z) (ws : List Jvm.Cond) (a1 : Addr) (cz : Int32) (fv : Value) (k : ClassId) (vs : List Value) (h0 : Heap) (n0 : Nat) (Z0 : n0 ≤ h0.size) (O0 : Old Z n0 h0) (J0 : Jd Z cz fv) (VV : Arv Z h0 a1 k .byte (4 : Int32) vs (.int 0)) :
    MF l Z mN17 jdk_52_method_15_code 2 (some .byte) ws rKKc4_0 #[(.ref a1), (.int (4 : Int32))] h0 (QKc4_0 Z a1 cz fv k vs h0 n0) := by
  refine MetFree.of_bodySF (plainFor_of_name pn3) hisR ?_
  intro p e s m args bl meth c s1 Bd hml0 hP hK
  obtain ⟨rfl, hZ, hh⟩ := hP
  have hx := Bd.exec
  have hby := Bd.bytes
  have B := @hb c _ hby
  have hown : s.vm.findClass "java/lang/StringUTF16" = some m.cls := findClass_of_methodNamed Bd.named
  have hlk : meth.locks = false := BodyLoose.notSynchronized Bd
  have hrt : ∀ {v : Option Value}, meth.sig.returnType = none → v = none := fun h => by rw [Bd.returns] at h; cases h
  have X0 : Stand p l e rKKc4_0 s m #[(.ref a1), (.int (4 : Int32))] bl meth c s1 [] 0 0 := Stand.of_body Bd
  have e0 : s1.heap = h0 := by rw [← hh, Bd.state]; rfl
  have N0 := Fr.nil n0
  obtain ⟨EF, hEF⟩ : ∃ f, f = entryFrame m #[(.ref a1), (.int (4 : Int32))] 2 := ⟨_, rfl⟩
  have pre0 : Go p e bl s1 (mkF m 0 #[rv a1, iv (4 : Int32)] []) s1 EF := fun t k => by rw [hEF]; exact castTop (efKc4_0 m a1) k
  have pre1 : Go p e bl s1 (mkF m 2 #[rv a1, iv (4 : Int32)] [(.ref a1), (.int (4 : Int32))]) s1 EF := fun t k => pre0 t (by
   refine XS.iloadN X0.here hx rfl (B d17_0) rfl ?_
   exact XS.aloadN X0.here hx rfl (B d17_1) rfl rfl k)
  obtain ⟨cl2, Ar2, q2, Sz2, M2, H2, G2⟩ := id VV
  have pre3 : Go p e bl s1 (mkF m 8 #[rv a1, iv (4 : Int32)] [(.int (0 : Int32))]) s1 EF := fun t k => pre1 t (by
   refine X0.arraylength hx (by rw [e0]; exact Ar2.1) (State.isArrayOf_alike hZ.alike Ar2.2.1) (g := (mkF m 2 #[rv a1, iv (4 : Int32)] [(.ref a1), (.int (4 : Int32))])) rfl rfl (B d17_2) _ ?_
   rw [len_of Sz2 M2]
   refine XS.isub X0.here hx rfl (B d17_3) rfl ?_
   refine XS.bipush X0.here hx rfl (B d17_4) ?_
   refine XS.iushr X0.here hx rfl (B d17_6) rfl ?_
   exact XS.i2b X0.here hx rfl (B d17_7) rfl k)
  have hnr : Value.int (nar .byte (0 : Int32)) = (.int (0 : Int32)) := by rfl
  exact fin1 X0 (v := some (.int (0 : Int32))) hrt hlk (wl rfl) (wl rfl) (by rw [e0]; exact ⟨rfl, N0, rfl⟩) (fun fs hr => hEF ▸ pre3 _ (retN X0 hx (t := .byte) Bd.returns (by simp) (B d17_8) (hnr ▸ hr)))
abbrev rKKc4_1 : Room := { frames := 0, cells := 0, slots := 0, locals := 0 }
theorem efKc4_1 (m : MethodId) (a1 : Addr) : entryFrame m #[(.ref a1), (.int (4 : Int32))] 2 = mkF m 0 #[rv a1, iv (4 : Int32)] [] := by first | (simp [entryFrame, mkF, argsToLocals, Value.category]; done) | rfl
def QKc4_1 (Z : State) (a1 : Addr) (cz : Int32) (fv : Value) (k : ClassId) (vs : List Value) (h0 : Heap) (n0 : Nat) (v : Option Value) (h : Heap) (L : List Loc) : Prop := v = some (.int (1 : Int32)) ∧ Fr n0 L ∧ h = h0
set_option maxRecDepth 65536 in
set_option maxHeartbeats 40000000 in
theorem rmKc4_1 (l : Launch) (Z : State) (a0 : Array Value) (hw : HW a0 Z) (ws : List Jvm.Cond) (a1 : Addr) (cz : Int32) (fv : Value) (k : ClassId) (vs : List Value) (h0 : Heap) (n0 : Nat) (Z0 : n0 ≤ h0.size) (O0 : Old Z n0 h0) (J0 : Jd Z cz fv) (VV : Arv Z h0 a1 k .byte (8 : Int32) vs (.int 0)) :
    MF l Z mN17 jdk_52_method_15_code 2 (some .byte) ws rKKc4_1 #[(.ref a1), (.int (4 : Int32))] h0 (QKc4_1 Z a1 cz fv k vs h0 n0) := by
  refine MetFree.of_bodySF (plainFor_of_name pn3) hisR ?_
  intro p e s m args bl meth c s1 Bd hml0 hP hK
  obtain ⟨rfl, hZ, hh⟩ := hP
  have hx := Bd.exec
  have hby := Bd.bytes
  have B := @hb c _ hby
  have hown : s.vm.findClass "java/lang/StringUTF16" = some m.cls := findClass_of_methodNamed Bd.named
  have hlk : meth.locks = false := BodyLoose.notSynchronized Bd
  have hrt : ∀ {v : Option Value}, meth.sig.returnType = none → v = none := fun h => by rw [Bd.returns] at h; cases h
  have X0 : Stand p l e rKKc4_1 s m #[(.ref a1), (.int (4 : Int32))] bl meth c s1 [] 0 0 := Stand.of_body Bd
  have e0 : s1.heap = h0 := by rw [← hh, Bd.state]; rfl
  have N0 := Fr.nil n0
  obtain ⟨EF, hEF⟩ : ∃ f, f = entryFrame m #[(.ref a1), (.int (4 : Int32))] 2 := ⟨_, rfl⟩
  have pre0 : Go p e bl s1 (mkF m 0 #[rv a1, iv (4 : Int32)] []) s1 EF := fun t k => by rw [hEF]; exact castTop (efKc4_1 m a1) k
  have pre1 : Go p e bl s1 (mkF m 2 #[rv a1, iv (4 : Int32)] [(.ref a1), (.int (4 : Int32))]) s1 EF := fun t k => pre0 t (by
   refine XS.iloadN X0.here hx rfl (B d17_0) rfl ?_
   exact XS.aloadN X0.here hx rfl (B d17_1) rfl rfl k)
  obtain ⟨cl2, Ar2, q2, Sz2, M2, H2, G2⟩ := id VV
  have pre3 : Go p e bl s1 (mkF m 8 #[rv a1, iv (4 : Int32)] [(.int (1 : Int32))]) s1 EF := fun t k => pre1 t (by
   refine X0.arraylength hx (by rw [e0]; exact Ar2.1) (State.isArrayOf_alike hZ.alike Ar2.2.1) (g := (mkF m 2 #[rv a1, iv (4 : Int32)] [(.ref a1), (.int (4 : Int32))])) rfl rfl (B d17_2) _ ?_
   rw [len_of Sz2 M2]
   refine XS.isub X0.here hx rfl (B d17_3) rfl ?_
   refine XS.bipush X0.here hx rfl (B d17_4) ?_
   refine XS.iushr X0.here hx rfl (B d17_6) rfl ?_
   exact XS.i2b X0.here hx rfl (B d17_7) rfl k)
  have hnr : Value.int (nar .byte (1 : Int32)) = (.int (1 : Int32)) := by rfl
  exact fin1 X0 (v := some (.int (1 : Int32))) hrt hlk (wl rfl) (wl rfl) (by rw [e0]; exact ⟨rfl, N0, rfl⟩) (fun fs hr => hEF ▸ pre3 _ (retN X0 hx (t := .byte) Bd.returns (by simp) (B d17_8) (hnr ▸ hr)))
abbrev rKKi4 : Room := { frames := 4, cells := 2, slots := 12, locals := 57 }
theorem efKi4 (m : MethodId) (a1 : Addr) (a2 : Addr) : entryFrame m #[(.ref a1), (.ref a2), (.int (0 : Int32)), (.int (4 : Int32)), .null] 6 = mkF m 0 #[rv a1, rv a2, iv (0 : Int32), iv (4 : Int32), .val .null, .unset] [] := by first | (simp [entryFrame, mkF, argsToLocals, Value.category]; done) | rfl
def QKi4 (Z : State) (a1 : Addr) (a2 : Addr) (cz : Int32) (fv : Value) (k1 : ClassId) (c0 : Int32) (c1 : Int32) (c2 : Int32) (c3 : Int32) (h0 : Heap) (n0 : Nat) (v : Option Value) (h : Heap) (L : List Loc) : Prop := v = none ∧ Fr n0 L ∧ Keep h0 h [a1] ∧ Str Z h a1 [c0, c1, c2, c3]
set_option maxRecDepth 65536 in
set_option maxHeartbeats 40000000 in
theorem rmKi4 (l : Launch) (Z : State) (a0 : Array Value) (hw : HW a0 Z) (ws : List Jvm.Cond) (a1 : Addr) (a2 : Addr) (cz : Int32) (fv : Value) (k1 : ClassId) (c0 : Int32) (c1 : Int32) (c2 : Int32) (c3 : Int32) (h0 : Heap) (n0 : Nat) (Z0 : n0 ≤ h0.size) (O0 : Old Z n0 h0) (J0 : Jd Z cz fv) (E1 : Exa Z h0 a1 "java/lang/String") (g_a1 : n0 ≤ a1) (F1 : Fld Z h0 a1 "java/lang/String" "value" "[B" .null) (F2 : Fld Z h0 a1 "java/lang/String" "coder" "B" (.int (0 : Int32))) (V2 : Arv Z h0 a2 k1 .char (4 : Int32) [(.int c0), (.int c1), (.int c2), (.int c3)] (.int (0 : Int32))) (hrg : ∀ c ∈ [c0, c1, c2, c3], 0 ≤ c.toInt ∧ c.toInt < 65536) :
    MF l Z mN18 jdk_42_method_149_code 6 none ws rKKi4 #[(.ref a1), (.ref a2), (.int (0 : Int32)), (.int (4 : Int32)), .null] h0 (QKi4 Z a1 a2 cz fv k1 c0 c1 c2 c3 h0 n0) := by
  refine MetFree.of_bodySF (plainFor_of_name pn0) hisR ?_
  intro p e s m args bl meth c s1 Bd hml0 hP hK
  obtain ⟨rfl, hZ, hh⟩ := hP
  have hx := Bd.exec
  have hby := Bd.bytes
  have B := @hb c _ hby
  have hM := fun {n : Nat} (h : n = 6) => h.trans hml0.symm
  have hown : s.vm.findClass "java/lang/String" = some m.cls := findClass_of_methodNamed Bd.named
  have hnm := (name_of_methodNamed Bd.named Bd.method).1
  have hlk : meth.locks = false := BodyLoose.notSynchronized Bd
  have X0 : Stand p l e rKKi4 s m #[(.ref a1), (.ref a2), (.int (0 : Int32)), (.int (4 : Int32)), .null] bl meth c s1 [] 0 0 := Stand.of_body Bd
  have e0 : s1.heap = h0 := by rw [← hh, Bd.state]; rfl
  have N0 := Fr.nil n0
  obtain ⟨EF, hEF⟩ : ∃ f, f = entryFrame m #[(.ref a1), (.ref a2), (.int (0 : Int32)), (.int (4 : Int32)), .null] 6 := ⟨_, rfl⟩
  have pre0 : Go p e bl s1 (mkF m 0 #[rv a1, rv a2, iv (0 : Int32), iv (4 : Int32), .val .null, .unset] []) s1 EF := fun t k => by rw [hEF]; exact castTop (efKi4 m a1 a2) k
  have pre1 : Go p e bl s1 (mkF m 1 #[rv a1, rv a2, iv (0 : Int32), iv (4 : Int32), .val .null, .unset] [(.ref a1)]) s1 EF := fun t k => pre0 t (by
   exact XS.aloadN X0.here hx rfl (B d18_0) rfl rfl k)
  obtain ⟨T2, X2, e2, st2⟩ := initO X0 hx hZ hown (hw _ (mW 17 rfl)) (hw _ (mW 18 rfl)) (hw _ (mW 19 rfl)) e0 (g := (mkF m 1 #[rv a1, rv a2, iv (0 : Int32), iv (4 : Int32), .val .null, .unset] [(.ref a1)])) rfl (hM rfl) rfl (B d18_1) (by decide) (W := 0) (Nat.le_of_eq rfl) (by decide)
  have pre3 : Go p e bl T2 (mkF m 4 #[rv a1, rv a2, iv (0 : Int32), iv (4 : Int32), .val .null, .unset] []) s1 EF := fun t k => pre1 t (st2 t k)
  have pre4 : Go p e bl T2 (mkF m 5 #[rv a1, rv a2, iv (0 : Int32), iv (4 : Int32), .val .null, .unset] [(.int (4 : Int32))]) s1 EF := fun t k => pre3 t (by
   exact XS.iloadN X2.here hx rfl (B d18_4) rfl k)
  have pre5 : Go p e bl T2 (mkF m 27 #[rv a1, rv a2, iv (0 : Int32), iv (4 : Int32), .val .null, .unset] []) s1 EF := fun t k => pre4 t (XS.ifYes X2.here hx rfl (pc0 := 5) (pc' := 27) rfl (B d18_5) rfl ((if0 _ _).trans (feq (by decide : ¬ ((4 : Int32) = (0 : Int32)))).2) (by decide) (by decide) k)
  obtain ⟨T6, X6, e6, st6⟩ := getS2 X2 hx hZ hown (host := "") (Or.inl (hw _ (mW 42 rfl))) Via.refl e2 (J0.1.ext O0.2) (g := (mkF m 27 #[rv a1, rv a2, iv (0 : Int32), iv (4 : Int32), .val .null, .unset] [])) rfl (B d18_27)
  have pre7 : Go p e bl T6 (mkF m 30 #[rv a1, rv a2, iv (0 : Int32), iv (4 : Int32), .val .null, .unset] [(.int cz)]) s1 EF := fun t k => pre5 t (st6 t k)
  have pre8 : Go p e bl T6 (mkF m 33 #[rv a1, rv a2, iv (0 : Int32), iv (4 : Int32), .val .null, .unset] []) s1 EF := fun t k => pre7 t (XS.ifNo X6.here hx rfl (B d18_30) rfl ((if0 _ _).trans (feq J0.2.1).1) k)
  have pre9 : Go p e bl T6 (mkF m 36 #[rv a1, rv a2, iv (0 : Int32), iv (4 : Int32), .val .null, .unset] [(.int (4 : Int32)), (.int (0 : Int32)), (.ref a2)]) s1 EF := fun t k => pre8 t (by
   refine XS.aloadN X6.here hx rfl (B d18_33) rfl rfl ?_
   refine XS.iloadN X6.here hx rfl (B d18_34) rfl ?_
   exact XS.iloadN X6.here hx rfl (B d18_35) rfl k)
  obtain ⟨_, _, ⟨T10, L10, k10, n10⟩, -, X10, ⟨Lc10, hQ10, l10, y10, z10⟩, st10⟩ := Jvm.LawKit.callS X6 hx (y := mN16) hown (mvT hZ (hw _ (mW 43 rfl))) (mvT hZ (hw _ (mW 44 rfl))) (mvT hZ (hw _ (mW 45 rfl))) (mvT hZ (hw _ (mW 46 rfl))) (by decide) (backOf (W := 0) (rmKb4 l Z a0 hw [] a2 cz fv k1 c0 c1 c2 c3 h0 n0 Z0 O0 J0 V2 hrg) hZ (hw _ (mW 46 rfl)) (hw _ (mW 45 rfl)) (by decide) (by decide)) (g := (mkF m 36 #[rv a1, rv a2, iv (0 : Int32), iv (4 : Int32), .val .null, .unset] [(.int (4 : Int32)), (.int (0 : Int32)), (.ref a2)])) rfl (hM rfl) (argsL := [(.ref a2), (.int (0 : Int32)), (.int (4 : Int32))]) (rest := []) (lenOf pd11 rfl) rfl (Nat.le_of_eq rfl) (B d18_36) (fun _ _ => ⟨rfl, e6, wl rfl, wl rfl⟩)
  dsimp only [Pt.U, Pt.locs, Pt.cells, Pt.slots] at X10 l10 y10 z10 st10 hQ10
  subst l10 y10 z10
  rcases hQ10 with ⟨bv, kb10, rfl, N10q, K10, hsz10, LE10, VB10⟩ | ⟨bv, kb10, rfl, N10q, K10, hsz10, VB10⟩
  · have N10 := Fr.app N0 N10q
    have pre11 : Go p e bl T10 (mkF m 39 #[rv a1, rv a2, iv (0 : Int32), iv (4 : Int32), .val .null, .unset] [(.ref bv)]) s1 EF := fun t k => pre9 t (st10 t k)
    have O12 : Old Z n0 T10.heap := O0.keep K10 all0
    have Z12 : n0 ≤ T10.heap.size := Nat.le_trans Z0 K10.1
    have K12 : Keep h0 T10.heap [a1] := (Keep.refl h0 [a1]).trans K10 all0
    have g_bv : n0 ≤ bv := Nat.le_trans Z0 hsz10
    have sz_bv : h0.size ≤ bv := Nat.le_trans (Keep.refl h0 [a1]).1 hsz10
    have ne_a1_bv : a1 ≠ bv := Nat.ne_of_lt (Nat.lt_of_lt_of_le E1.lt hsz10)
    have pre13 : Go p e bl T10 (mkF m 45 #[rv a1, rv a2, iv (0 : Int32), iv (4 : Int32), .val .null, rv bv] [(.int (4 : Int32)), (.ref bv), (.ref a1)]) s1 EF := fun t k => pre11 t (by
     refine XS.astore X10.here hx rfl (B d18_39) rfl rfl (l' := #[rv a1, rv a2, iv (0 : Int32), iv (4 : Int32), .val .null, rv bv]) rfl ?_
     refine XS.aloadN X10.here hx rfl (B d18_41) rfl rfl ?_
     refine XS.aload X10.here hx rfl (B d18_42) rfl rfl ?_
     exact XS.iloadN X10.here hx rfl (B d18_44) rfl k)
    obtain ⟨_, _, ⟨T14, L14, k14, n14⟩, -, X14, ⟨Lc14, hQ14, l14, y14, z14⟩, st14⟩ := Jvm.LawKit.callS X10 hx (y := mN17) hown (mvT hZ (hw _ (mW 50 rfl))) (mvT hZ (hw _ (mW 51 rfl))) (mvT hZ (hw _ (mW 45 rfl))) (mvT hZ (hw _ (mW 52 rfl))) (by decide) (backOf (W := 1) (rmKc4_0 l Z a0 hw [] bv cz fv kb10 _ T10.heap n0 Z12 O12 J0 VB10) hZ (hw _ (mW 52 rfl)) (hw _ (mW 45 rfl)) (by decide) (by decide)) (g := (mkF m 45 #[rv a1, rv a2, iv (0 : Int32), iv (4 : Int32), .val .null, rv bv] [(.int (4 : Int32)), (.ref bv), (.ref a1)])) rfl (hM rfl) (argsL := [(.ref bv), (.int (4 : Int32))]) (rest := [(.ref a1)]) (lenOf pd12 rfl) rfl (Nat.le_of_eq rfl) (B d18_45) (fun _ _ => ⟨rfl, rfl, wl rfl, wl rfl⟩)
    dsimp only [Pt.U, Pt.locs, Pt.cells, Pt.slots] at X14 l14 y14 z14 st14 hQ14
    subst l14 y14 z14
    obtain ⟨rfl, N14q, hq14⟩ := hQ14
    have N14 := Fr.app N10 N14q
    have pre15 : Go p e bl T14 (mkF m 48 #[rv a1, rv a2, iv (0 : Int32), iv (4 : Int32), .val .null, rv bv] [(.int (0 : Int32)), (.ref a1)]) s1 EF := fun t k => pre13 t (st14 t k)
    have e14 : T14.heap = T10.heap := hq14
    obtain ⟨T16, h16, X16, e16, W16, st16⟩ := putFN X14 hx hZ hown (hw _ (mW 27 rfl)) Via.refl e14 (F2.keep K10 nin0) (E1.keep K10) (Or.inr ⟨(hw _ (mW 23 rfl)), rfl, hnm⟩) (hw _ (mW 7 rfl)) (ty := .byte) (v' := (.int (0 : Int32))) (by decide) rfl rfl (g := (mkF m 48 #[rv a1, rv a2, iv (0 : Int32), iv (4 : Int32), .val .null, rv bv] [(.int (0 : Int32)), (.ref a1)])) rfl rfl (B d18_48)
    have pre17 : Go p e bl T16 (mkF m 51 #[rv a1, rv a2, iv (0 : Int32), iv (4 : Int32), .val .null, rv bv] []) s1 EF := fun t k => pre15 t (st16 t k)
    have O18 : Old Z n0 h16 := O12.wr W16 g_a1
    have Z18 : n0 ≤ h16.size := Nat.le_trans Z12 (Keep.of_wr W16).1
    have K18 : Keep h0 h16 [a1] := K12.wr W16 (Or.inl (List.mem_of_getElem? (i := 0) rfl))
    have Fw16 := Fld.same W16 (F2.keep K10 nin0)
    have N16 := Fr.snoc X16 N14 g_a1
    have pre19 : Go p e bl T16 (mkF m 54 #[rv a1, rv a2, iv (0 : Int32), iv (4 : Int32), .val .null, rv bv] [(.ref bv), (.ref a1)]) s1 EF := fun t k => pre17 t (by
     refine XS.aloadN X16.here hx rfl (B d18_51) rfl rfl ?_
     exact XS.aload X16.here hx rfl (B d18_52) rfl rfl k)
    obtain ⟨T20, h20, X20, e20, W20, st20⟩ := putF X16 hx hZ hown (host := "") (Or.inl (hw _ (mW 26 rfl))) Via.refl e16 (Fld.other W16 (F1.keep K10 nin0) (Or.inr (slot_ne (Or.inr (hw _ (mW 22 rfl))) (Or.inr (hw _ (mW 23 rfl))) (by decide) (t := (.array .byte)) (t' := .byte) (by decide) (by decide)))) ((E1.keep K10).wr W16) (Or.inr ⟨(hw _ (mW 22 rfl)), rfl, hnm⟩) (hw _ (mW 7 rfl)) (ty := (.array .byte)) (by decide) rfl rfl (g := (mkF m 54 #[rv a1, rv a2, iv (0 : Int32), iv (4 : Int32), .val .null, rv bv] [(.ref bv), (.ref a1)])) rfl rfl (B d18_54)
    have pre21 : Go p e bl T20 (mkF m 57 #[rv a1, rv a2, iv (0 : Int32), iv (4 : Int32), .val .null, rv bv] []) s1 EF := fun t k => pre19 t (st20 t k)
    have O22 : Old Z n0 h20 := O18.wr W20 g_a1
    have Z22 : n0 ≤ h20.size := Nat.le_trans Z18 (Keep.of_wr W20).1
    have K22 : Keep h0 h20 [a1] := K18.wr W20 (Or.inl (List.mem_of_getElem? (i := 0) rfl))
    have Fw20 := Fld.same W20 (Fld.other W16 (F1.keep K10 nin0) (Or.inr (slot_ne (Or.inr (hw _ (mW 22 rfl))) (Or.inr (hw _ (mW 23 rfl))) (by decide) (t := (.array .byte)) (t' := .byte) (by decide) (by decide))))
    have N20 := Fr.snoc X20 N16 g_a1
    exact fin1 X20 (v := none) (fun _ => rfl) hlk (wl rfl) (wl rfl) (by rw [e20]; exact ⟨rfl, N20, K22, ⟨_, _, _, _, _, (((E1.keep K10).wr W16).wr W20), (Fld.other W20 Fw16 (Or.inr (slot_ne (Or.inr (hw _ (mW 23 rfl))) (Or.inr (hw _ (mW 22 rfl))) (by decide) (t := .byte) (t' := (.array .byte)) (by decide) (by decide)))), Fw20, ((VB10.other W16 (Ne.symm ne_a1_bv)).other W20 (Ne.symm ne_a1_bv)), Nat.le_of_ble_eq_true rfl, Or.inl ⟨rfl, by rfl, rfl, own_le hrg LE10⟩⟩⟩) (fun fs hr => hEF ▸ pre21 _ (X20.returnOut hx Bd.returns (B d18_57) hr))
  have N10 := Fr.app N0 N10q
  have pre23 : Go p e bl T10 (mkF m 39 #[rv a1, rv a2, iv (0 : Int32), iv (4 : Int32), .val .null, .unset] [(.ref bv)]) s1 EF := fun t k => pre9 t (st10 t k)
  have O24 : Old Z n0 T10.heap := O0.keep K10 all0
  have Z24 : n0 ≤ T10.heap.size := Nat.le_trans Z0 K10.1
  have K24 : Keep h0 T10.heap [a1] := (Keep.refl h0 [a1]).trans K10 all0
  have g_bv : n0 ≤ bv := Nat.le_trans Z0 hsz10
  have sz_bv : h0.size ≤ bv := Nat.le_trans (Keep.refl h0 [a1]).1 hsz10
  have ne_a1_bv : a1 ≠ bv := Nat.ne_of_lt (Nat.lt_of_lt_of_le E1.lt hsz10)
  have pre25 : Go p e bl T10 (mkF m 45 #[rv a1, rv a2, iv (0 : Int32), iv (4 : Int32), .val .null, rv bv] [(.int (4 : Int32)), (.ref bv), (.ref a1)]) s1 EF := fun t k => pre23 t (by
   refine XS.astore X10.here hx rfl (B d18_39) rfl rfl (l' := #[rv a1, rv a2, iv (0 : Int32), iv (4 : Int32), .val .null, rv bv]) rfl ?_
   refine XS.aloadN X10.here hx rfl (B d18_41) rfl rfl ?_
   refine XS.aload X10.here hx rfl (B d18_42) rfl rfl ?_
   exact XS.iloadN X10.here hx rfl (B d18_44) rfl k)
  obtain ⟨_, _, ⟨T26, L26, k26, n26⟩, -, X26, ⟨Lc26, hQ26, l26, y26, z26⟩, st26⟩ := Jvm.LawKit.callS X10 hx (y := mN17) hown (mvT hZ (hw _ (mW 50 rfl))) (mvT hZ (hw _ (mW 51 rfl))) (mvT hZ (hw _ (mW 45 rfl))) (mvT hZ (hw _ (mW 52 rfl))) (by decide) (backOf (W := 1) (rmKc4_1 l Z a0 hw [] bv cz fv kb10 _ T10.heap n0 Z24 O24 J0 VB10) hZ (hw _ (mW 52 rfl)) (hw _ (mW 45 rfl)) (by decide) (by decide)) (g := (mkF m 45 #[rv a1, rv a2, iv (0 : Int32), iv (4 : Int32), .val .null, rv bv] [(.int (4 : Int32)), (.ref bv), (.ref a1)])) rfl (hM rfl) (argsL := [(.ref bv), (.int (4 : Int32))]) (rest := [(.ref a1)]) (lenOf pd12 rfl) rfl (Nat.le_of_eq rfl) (B d18_45) (fun _ _ => ⟨rfl, rfl, wl rfl, wl rfl⟩)
  dsimp only [Pt.U, Pt.locs, Pt.cells, Pt.slots] at X26 l26 y26 z26 st26 hQ26
  subst l26 y26 z26
  obtain ⟨rfl, N26q, hq26⟩ := hQ26
  have N26 := Fr.app N10 N26q
  have pre27 : Go p e bl T26 (mkF m 48 #[rv a1, rv a2, iv (0 : Int32), iv (4 : Int32), .val .null, rv bv] [(.int (1 : Int32)), (.ref a1)]) s1 EF := fun t k => pre25 t (st26 t k)
  have e26 : T26.heap = T10.heap := hq26
  obtain ⟨T28, h28, X28, e28, W28, st28⟩ := putFN X26 hx hZ hown (hw _ (mW 27 rfl)) Via.refl e26 (F2.keep K10 nin0) (E1.keep K10) (Or.inr ⟨(hw _ (mW 23 rfl)), rfl, hnm⟩) (hw _ (mW 7 rfl)) (ty := .byte) (v' := (.int (1 : Int32))) (by decide) rfl rfl (g := (mkF m 48 #[rv a1, rv a2, iv (0 : Int32), iv (4 : Int32), .val .null, rv bv] [(.int (1 : Int32)), (.ref a1)])) rfl rfl (B d18_48)
  have pre29 : Go p e bl T28 (mkF m 51 #[rv a1, rv a2, iv (0 : Int32), iv (4 : Int32), .val .null, rv bv] []) s1 EF := fun t k => pre27 t (st28 t k)
  have O30 : Old Z n0 h28 := O24.wr W28 g_a1
  have Z30 : n0 ≤ h28.size := Nat.le_trans Z24 (Keep.of_wr W28).1
  have K30 : Keep h0 h28 [a1] := K24.wr W28 (Or.inl (List.mem_of_getElem? (i := 0) rfl))
  have Fw28 := Fld.same W28 (F2.keep K10 nin0)
  have N28 := Fr.snoc X28 N26 g_a1
  have pre31 : Go p e bl T28 (mkF m 54 #[rv a1, rv a2, iv (0 : Int32), iv (4 : Int32), .val .null, rv bv] [(.ref bv), (.ref a1)]) s1 EF := fun t k => pre29 t (by
   refine XS.aloadN X28.here hx rfl (B d18_51) rfl rfl ?_
   exact XS.aload X28.here hx rfl (B d18_52) rfl rfl k)
  obtain ⟨T32, h32, X32, e32, W32, st32⟩ := putF X28 hx hZ hown (host := "") (Or.inl (hw _ (mW 26 rfl))) Via.refl e28 (Fld.other W28 (F1.keep K10 nin0) (Or.inr (slot_ne (Or.inr (hw _ (mW 22 rfl))) (Or.inr (hw _ (mW 23 rfl))) (by decide) (t := (.array .byte)) (t' := .byte) (by decide) (by decide)))) ((E1.keep K10).wr W28) (Or.inr ⟨(hw _ (mW 22 rfl)), rfl, hnm⟩) (hw _ (mW 7 rfl)) (ty := (.array .byte)) (by decide) rfl rfl (g := (mkF m 54 #[rv a1, rv a2, iv (0 : Int32), iv (4 : Int32), .val .null, rv bv] [(.ref bv), (.ref a1)])) rfl rfl (B d18_54)
  have pre33 : Go p e bl T32 (mkF m 57 #[rv a1, rv a2, iv (0 : Int32), iv (4 : Int32), .val .null, rv bv] []) s1 EF := fun t k => pre31 t (st32 t k)
  have O34 : Old Z n0 h32 := O30.wr W32 g_a1
  have Z34 : n0 ≤ h32.size := Nat.le_trans Z30 (Keep.of_wr W32).1
  have K34 : Keep h0 h32 [a1] := K30.wr W32 (Or.inl (List.mem_of_getElem? (i := 0) rfl))
  have Fw32 := Fld.same W32 (Fld.other W28 (F1.keep K10 nin0) (Or.inr (slot_ne (Or.inr (hw _ (mW 22 rfl))) (Or.inr (hw _ (mW 23 rfl))) (by decide) (t := (.array .byte)) (t' := .byte) (by decide) (by decide))))
  have N32 := Fr.snoc X32 N28 g_a1
  exact fin1 X32 (v := none) (fun _ => rfl) hlk (wl rfl) (wl rfl) (by rw [e32]; exact ⟨rfl, N32, K34, ⟨_, _, _, _, _, (((E1.keep K10).wr W28).wr W32), (Fld.other W32 Fw28 (Or.inr (slot_ne (Or.inr (hw _ (mW 23 rfl))) (Or.inr (hw _ (mW 22 rfl))) (by decide) (t := .byte) (t' := (.array .byte)) (by decide) (by decide)))), Fw32, ((VB10.other W28 (Ne.symm ne_a1_bv)).other W32 (Ne.symm ne_a1_bv)), Nat.le_of_ble_eq_true rfl, Or.inr ⟨rfl, by rfl, rfl, hrg⟩⟩⟩) (fun fs hr => hEF ▸ pre33 _ (X32.returnOut hx Bd.returns (B d18_57) hr))
abbrev rKKj4 : Room := { frames := 5, cells := 2, slots := 12, locals := 74 }
theorem efKj4 (m : MethodId) (a1 : Addr) (a2 : Addr) : entryFrame m #[(.ref a1), (.ref a2)] 2 = mkF m 0 #[rv a1, rv a2] [] := by first | (simp [entryFrame, mkF, argsToLocals, Value.category]; done) | rfl
def QKj4 (Z : State) (a1 : Addr) (a2 : Addr) (cz : Int32) (fv : Value) (k1 : ClassId) (c0 : Int32) (c1 : Int32) (c2 : Int32) (c3 : Int32) (h0 : Heap) (n0 : Nat) (v : Option Value) (h : Heap) (L : List Loc) : Prop := v = none ∧ Fr n0 L ∧ Keep h0 h [a1] ∧ Str Z h a1 [c0, c1, c2, c3]
set_option maxRecDepth 65536 in
set_option maxHeartbeats 40000000 in
theorem rmKj4 (l : Launch) (Z : State) (a0 : Array Value) (hw : HW a0 Z) (ws : List Jvm.Cond) (a1 : Addr) (a2 : Addr) (cz : Int32) (fv : Value) (k1 : ClassId) (c0 : Int32) (c1 : Int32) (c2 : Int32) (c3 : Int32) (h0 : Heap) (n0 : Nat) (Z0 : n0 ≤ h0.size) (O0 : Old Z n0 h0) (J0 : Jd Z cz fv) (E1 : Exa Z h0 a1 "java/lang/String") (g_a1 : n0 ≤ a1) (F1 : Fld Z h0 a1 "java/lang/String" "value" "[B" .null) (F2 : Fld Z h0 a1 "java/lang/String" "coder" "B" (.int (0 : Int32))) (V2 : Arv Z h0 a2 k1 .char (4 : Int32) [(.int c0), (.int c1), (.int c2), (.int c3)] (.int (0 : Int32))) (hrg : ∀ c ∈ [c0, c1, c2, c3], 0 ≤ c.toInt ∧ c.toInt < 65536) :
    MF l Z mN19 jdk_42_method_3_code 2 none ws rKKj4 #[(.ref a1), (.ref a2)] h0 (QKj4 Z a1 a2 cz fv k1 c0 c1 c2 c3 h0 n0) := by
  refine MetFree.of_bodySF (plainFor_of_name pn0) hisR ?_
  intro p e s m args bl meth c s1 Bd hml0 hP hK
  obtain ⟨rfl, hZ, hh⟩ := hP
  have hx := Bd.exec
  have hby := Bd.bytes
  have B := @hb c _ hby
  have hM := fun {n : Nat} (h : n = 2) => h.trans hml0.symm
  have hown : s.vm.findClass "java/lang/String" = some m.cls := findClass_of_methodNamed Bd.named
  have hlk : meth.locks = false := BodyLoose.notSynchronized Bd
  have X0 : Stand p l e rKKj4 s m #[(.ref a1), (.ref a2)] bl meth c s1 [] 0 0 := Stand.of_body Bd
  have e0 : s1.heap = h0 := by rw [← hh, Bd.state]; rfl
  have N0 := Fr.nil n0
  obtain ⟨EF, hEF⟩ : ∃ f, f = entryFrame m #[(.ref a1), (.ref a2)] 2 := ⟨_, rfl⟩
  have pre0 : Go p e bl s1 (mkF m 0 #[rv a1, rv a2] []) s1 EF := fun t k => by rw [hEF]; exact castTop (efKj4 m a1 a2) k
  have pre1 : Go p e bl s1 (mkF m 4 #[rv a1, rv a2] [(.ref a2), (.int (0 : Int32)), (.ref a2), (.ref a1)]) s1 EF := fun t k => pre0 t (by
   refine XS.aloadN X0.here hx rfl (B d19_0) rfl rfl ?_
   refine XS.aloadN X0.here hx rfl (B d19_1) rfl rfl ?_
   refine XS.iconst X0.here hx rfl (B d19_2) ?_
   exact XS.aloadN X0.here hx rfl (B d19_3) rfl rfl k)
  obtain ⟨cl2, Ar2, q2, Sz2, M2, H2, G2⟩ := id V2
  have pre3 : Go p e bl s1 (mkF m 6 #[rv a1, rv a2] [.null, (.int (4 : Int32)), (.int (0 : Int32)), (.ref a2), (.ref a1)]) s1 EF := fun t k => pre1 t (by
   refine X0.arraylength hx (by rw [e0]; exact Ar2.1) (State.isArrayOf_alike hZ.alike Ar2.2.1) (g := (mkF m 4 #[rv a1, rv a2] [(.ref a2), (.int (0 : Int32)), (.ref a2), (.ref a1)])) rfl rfl (B d19_4) _ ?_
   rw [len_of Sz2 M2]
   exact XS.aconstNull X0.here hx rfl (B d19_5) k)
  obtain ⟨_, _, ⟨T4, L4, k4, n4⟩, -, X4, ⟨Lc4, hQ4, l4, y4, z4⟩, st4⟩ := X0.specialBack hx (y := mN18) rfl hown (mvT hZ (hw _ (mW 13 rfl))) (mvT hZ (hw _ (mW 14 rfl))) (mvT hZ (hw _ (mW 16 rfl))) (by decide) (backOf (W := 0) (rmKi4 l Z a0 hw [] a1 a2 cz fv k1 c0 c1 c2 c3 h0 n0 Z0 O0 J0 E1 g_a1 F1 F2 V2 hrg) hZ (hw _ (mW 16 rfl)) (hw _ (mW 8 rfl)) (by decide) (by decide)) (g := (mkF m 6 #[rv a1, rv a2] [.null, (.int (4 : Int32)), (.int (0 : Int32)), (.ref a2), (.ref a1)])) rfl (hM rfl) (Steps.refl _) (a := a1) (argsL := [(.ref a2), (.int (0 : Int32)), (.int (4 : Int32)), .null]) (rest := []) (lenOf pd13 rfl) rfl (Nat.le_of_eq rfl) (B d19_6) (fun _ _ => ⟨rfl, e0, wl rfl, wl rfl⟩)
  dsimp only [Pt.U, Pt.locs, Pt.cells, Pt.slots] at X4 l4 y4 z4 st4 hQ4
  subst l4 y4 z4
  obtain ⟨rfl, N4q, K4, SF4⟩ := hQ4
  have N4 := Fr.app N0 N4q
  have pre5 : Go p e bl T4 (mkF m 9 #[rv a1, rv a2] []) s1 EF := fun t k => pre3 t (st4.trans k)
  have O6 : Old Z n0 T4.heap := O0.keep K4 (allS g_a1 all0)
  have Z6 : n0 ≤ T4.heap.size := Nat.le_trans Z0 K4.1
  have K6 : Keep h0 T4.heap [a1] := (Keep.refl h0 [a1]).trans K4 (allS (Or.inl (List.mem_of_getElem? (i := 0) rfl)) all0)
  exact fin1 X4 (v := none) (fun _ => rfl) hlk (wl rfl) (wl rfl) (by exact ⟨rfl, N4, K6, SF4⟩) (fun fs hr => hEF ▸ pre5 _ (X4.returnOut hx Bd.returns (B d19_9) hr))
theorem own_safe {Z : State} {EL : List (String × Nat)} {vm : Vm} {h : Heap} {x : Addr} (hal : Z.vm.Alike vm) (E : Exa Z h x "java/lang/String") (F : Fld Z h x "java/lang/String" "value" "[B" .null) : Safe Z EL vm h x := fun B => by
  obtain ⟨p, -, u, a, -, q, -, G, rfl | rfl⟩ := B
  · obtain ⟨cell, cf, k, i, f, h1, h2, h3, h4, h5, h6, h7⟩ := F
    have e : h[Jvm.Free.SB.SQ.sa q]? = some (Jvm.Free.SB.SQ.sC q) := G.ha
    cases e.symm.trans h1
    obtain ⟨cS, ⟨⟨-, -, -, ⟨c1, k1, i1, f1, -⟩, -, -, -, v1, -⟩, -⟩, -⟩ := G
    obtain ⟨k3, e3, -⟩ := State.fieldFound?_setVm (s := Z) hal h2
    have e4 := (show (Wst Z vm h).fieldFound? "java/lang/String" "value" "[B" = _ from e3).symm.trans f1
    simp only [Option.some.injEq, Prod.mk.injEq] at e4
    rw [e4.2.2.2, v1] at h7
    cases h7
  · obtain ⟨cell, k, e1, e2, e3, -, -⟩ := E
    cases (show h[Jvm.Free.SB.SQ.sd q]? = some (Jvm.Free.SB.SQ.SA q) from G.hd).symm.trans e1
    obtain ⟨cS, -, -, f, -⟩ := G
    have f' : vm.findClass "[B" = some (Jvm.Free.SB.SQ.SA q).cls := f
    rw [hal.findClass] at f'
    obtain ⟨k1, q1, q2⟩ := Vm.findClass_spec f'
    obtain ⟨k2, q3, q4⟩ := Vm.findClass_spec e2
    cases q1.symm.trans q3
    exact absurd (q2.symm.trans q4) (by decide)
theorem own_sa : ∀ w ∈ Bundle.stringAtoms, w ∈ tables_1 := by decide +kernel
theorem own_wS {Z : State} {a0 : Array Value} (hw : ∀ d ∈ tables_1, d.before a0 Z = true) : ∀ a ∈ Bundle.stringAtoms, a.before a0 Z = true := fun a ha => hw a (own_sa a ha)
theorem own_EW {Z : State} {a0 : Array Value} (hw : ∀ d ∈ tables_1, d.before a0 Z = true) : EW Z a0 [("java/lang/String", 7)] := (EW.cons (hw _ (mW 20 rfl)) (by decide +kernel) EW.nil)
abbrev rKKi0 : Room := { frames := 1, cells := 4, slots := 8, locals := 12 }
theorem d18_8 : decode jdk_42_method_149_code 8 = .ok (.aload_n 0, 1) := by decide +kernel
theorem d18_9 : decode jdk_42_method_149_code 9 = .ok (.ldc 7, 2) := by decide +kernel
theorem d18_11 : decode jdk_42_method_149_code 11 = .ok (.getfield 9, 3) := by decide +kernel
theorem d18_14 : decode jdk_42_method_149_code 14 = .ok (.putfield 9, 3) := by decide +kernel
theorem d18_17 : decode jdk_42_method_149_code 17 = .ok (.aload_n 0, 1) := by decide +kernel
theorem d18_18 : decode jdk_42_method_149_code 18 = .ok (.ldc 7, 2) := by decide +kernel
theorem d18_20 : decode jdk_42_method_149_code 20 = .ok (.getfield 15, 3) := by decide +kernel
theorem d18_23 : decode jdk_42_method_149_code 23 = .ok (.putfield 15, 3) := by decide +kernel
theorem d18_26 : decode jdk_42_method_149_code 26 = .ok (.return_, 1) := by decide +kernel
theorem efKi0 (m : MethodId) (a1 : Addr) (a2 : Addr) : entryFrame m #[(.ref a1), (.ref a2), (.int (0 : Int32)), (.int (0 : Int32)), .null] 6 = mkF m 0 #[rv a1, rv a2, iv (0 : Int32), iv (0 : Int32), .val .null, .unset] [] := by first | (simp [entryFrame, mkF, argsToLocals, Value.category]; done) | rfl
def QKi0 (Z : State) (a1 : Addr) (a2 : Addr) (cz : Int32) (fv : Value) (k1 : ClassId) (h0 : Heap) (n0 : Nat) (v : Option Value) (h : Heap) (L : List Loc) : Prop := v = none ∧ Fr n0 L ∧ Keep h0 h [a1] ∧ Str Z h a1 []
set_option maxRecDepth 65536 in
set_option maxHeartbeats 40000000 in
theorem rmKi0 (l : Launch) (Z : State) (a0 : Array Value) (hw : HW a0 Z) (ws : List Jvm.Cond) (a1 : Addr) (a2 : Addr) (cz : Int32) (fv : Value) (k1 : ClassId) (h0 : Heap) (n0 : Nat) (Z0 : n0 ≤ h0.size) (O0 : Old Z n0 h0) (J0 : Jd Z cz fv) (E1 : Exa Z h0 a1 "java/lang/String") (g_a1 : n0 ≤ a1) (F1 : Fld Z h0 a1 "java/lang/String" "value" "[B" .null) (F2 : Fld Z h0 a1 "java/lang/String" "coder" "B" (.int (0 : Int32))) (V2 : Arv Z h0 a2 k1 .char (0 : Int32) [] (.int (0 : Int32))) :
    MetFree l mN18 (head1 (Jvm.Cond.code mN18 jdk_42_method_149_code 6 none :: ws) rKKi0) (fun a U => a = #[(.ref a1), (.ref a2), (.int (0 : Int32)), (.int (0 : Int32)), .null] ∧ Z.Warmed39 U.vm ∧ U.heap = h0 ∧ CHv Z [("java/lang/String", 7)] U.vm h0) (fun _ _ _ _ _ => True) (fun _ U o U' => ∃ v L, o = .returned v ∧ QKi0 Z a1 a2 cz fv k1 h0 n0 v U'.heap L ∧ CHr Z [("java/lang/String", 7)] U.vm U.heap U'.vm U'.heap ∧ ReturnedEndW U o U' L rKKi0.cells rKKi0.slots) := by
  refine MetFree.of_bodySF (plainFor_of_name pn0) hisR ?_
  intro p e s m args bl meth c s1 Bd hml0 hP hK
  obtain ⟨rfl, hZ, hh, hC⟩ := hP
  have hx := Bd.exec
  have hby := Bd.bytes
  have B := @hb c _ hby
  have hM := fun {n : Nat} (h : n = 6) => h.trans hml0.symm
  have hown : s.vm.findClass "java/lang/String" = some m.cls := findClass_of_methodNamed Bd.named
  have hnm := (name_of_methodNamed Bd.named Bd.method).1
  have X0 : Stand p l e rKKi0 (s.setVm s.vm) m #[(.ref a1), (.ref a2), (.int (0 : Int32)), (.int (0 : Int32)), .null] bl meth c s1 [] 0 0 := Stand.of_body Bd
  have e0 : s1.heap = h0 := by rw [← hh, Bd.state]; rfl
  have N0 := Fr.nil n0
  obtain ⟨EF, hEF⟩ : ∃ f, f = entryFrame m #[(.ref a1), (.ref a2), (.int (0 : Int32)), (.int (0 : Int32)), .null] 6 := ⟨_, rfl⟩
  have pre0 : Go p e bl s1 (mkF m 0 #[rv a1, rv a2, iv (0 : Int32), iv (0 : Int32), .val .null, .unset] []) s1 EF := fun t k => by rw [hEF]; exact castTop (efKi0 m a1 a2) k
  have hZ0 : Z.Warmed39 (s.setVm s.vm).vm := hZ
  have hown0 : (s.setVm s.vm).vm.findClass "java/lang/String" = some m.cls := hown
  have hS0 : s.Since s.vm s.heap.size := (State.WarmedH.refl s).since _
  have hk0 : s.heap.size ≤ h0.size := by rw [← hh]; exact Nat.le_refl _
  have sfa : Safe Z [("java/lang/String", 7)] s.vm h0 a1 := own_safe hZ0.alike E1 F1
  have pre1 : Go p e bl s1 (mkF m 1 #[rv a1, rv a2, iv (0 : Int32), iv (0 : Int32), .val .null, .unset] [(.ref a1)]) s1 EF := fun t k => pre0 t (by
   exact XS.aloadN X0.here hx rfl (B d18_0) rfl rfl k)
  obtain ⟨T2, X2, e2, st2⟩ := initO X0 hx hZ0 hown0 (hw _ (mW 17 rfl)) (hw _ (mW 18 rfl)) (hw _ (mW 19 rfl)) e0 (g := (mkF m 1 #[rv a1, rv a2, iv (0 : Int32), iv (0 : Int32), .val .null, .unset] [(.ref a1)])) rfl (hM rfl) rfl (B d18_1) (by decide) (W := 0) (Nat.le_of_eq rfl) (by decide)
  have pre3 : Go p e bl T2 (mkF m 4 #[rv a1, rv a2, iv (0 : Int32), iv (0 : Int32), .val .null, .unset] []) s1 EF := fun t k => pre1 t (st2 t k)
  have pre4 : Go p e bl T2 (mkF m 5 #[rv a1, rv a2, iv (0 : Int32), iv (0 : Int32), .val .null, .unset] [(.int (0 : Int32))]) s1 EF := fun t k => pre3 t (by
   exact XS.iloadN X2.here hx rfl (B d18_4) rfl k)
  have pre5 : Go p e bl T2 (mkF m 8 #[rv a1, rv a2, iv (0 : Int32), iv (0 : Int32), .val .null, .unset] []) s1 EF := fun t k => pre4 t (XS.ifNo X2.here hx rfl (B d18_5) rfl ((if0 _ _).trans (teq (by decide : (0 : Int32) = (0 : Int32))).2) k)
  have pre6 : Go p e bl T2 (mkF m 9 #[rv a1, rv a2, iv (0 : Int32), iv (0 : Int32), .val .null, .unset] [(.ref a1)]) s1 EF := fun t k => pre5 t (by
   exact XS.aloadN X2.here hx rfl (B d18_8) rfl rfl k)
  have slt7_a1 := E1.lt
  obtain ⟨a7, T7, h7, k7, b7, kc7, X7, e7, Et7, hS7, hk7, hZ7, hown7, LE7, LC7, LF7, LV7, lt7, ltb7, A7, Lt7, sfe7, st7⟩ := ldcCH X2 hx hZ0 hown0 (hw _ (mW 20 rfl)) (own_wS hw) e2 hS0 hk0 (own_EW hw) (List.mem_of_getElem? (i := 0) rfl) hC (vs := []) (z := (0 : Int32)) (by decide +kernel) (by decide) (by decide) (g := (mkF m 9 #[rv a1, rv a2, iv (0 : Int32), iv (0 : Int32), .val .null, .unset] [(.ref a1)])) rfl (B d18_9) (n := 0) (by decide) (by decide) (by decide) (by decide)
  have pre8 : Go p e bl T7 (mkF m 11 #[rv a1, rv a2, iv (0 : Int32), iv (0 : Int32), .val .null, .unset] [(.ref a7), (.ref a1)]) s1 EF := fun t k => pre6 t (st7 t k)
  have O9 : Old Z n0 h7 := O0.ext Et7
  have Z9 : n0 ≤ h7.size := Nat.le_trans Z0 Et7.1
  have K9 : Keep h0 h7 [a1] := (Keep.refl h0 [a1]).ext Et7
  have sg7_a1 := A7.safe slt7_a1 sfa
  have nx7_a1 := sfe7 a1 sg7_a1
  have R7 := (CHr.refl hC).trans A7
  obtain ⟨T10, X10, e10, st10⟩ := getF X7 hx hZ7 hown7 (host := "") (Or.inl (hw _ (mW 26 rfl))) Via.refl e7 LF7 (g := (mkF m 11 #[rv a1, rv a2, iv (0 : Int32), iv (0 : Int32), .val .null, .unset] [(.ref a7), (.ref a1)])) rfl rfl (B d18_11)
  have pre11 : Go p e bl T10 (mkF m 14 #[rv a1, rv a2, iv (0 : Int32), iv (0 : Int32), .val .null, .unset] [(.ref b7), (.ref a1)]) s1 EF := fun t k => pre8 t (st10 t k)
  obtain ⟨T12, h12, X12, e12, W12, st12⟩ := putF X10 hx hZ7 hown7 (host := "") (Or.inl (hw _ (mW 26 rfl))) Via.refl e10 (F1.ext Et7) (E1.ext Et7) (Or.inr ⟨(hw _ (mW 22 rfl)), rfl, hnm⟩) (hw _ (mW 7 rfl)) (ty := (.array .byte)) (by decide) rfl rfl (g := (mkF m 14 #[rv a1, rv a2, iv (0 : Int32), iv (0 : Int32), .val .null, .unset] [(.ref b7), (.ref a1)])) rfl rfl (B d18_14)
  have pre13 : Go p e bl T12 (mkF m 17 #[rv a1, rv a2, iv (0 : Int32), iv (0 : Int32), .val .null, .unset] []) s1 EF := fun t k => pre11 t (st12 t k)
  have O14 : Old Z n0 h12 := O9.wr W12 g_a1
  have Z14 : n0 ≤ h12.size := Nat.le_trans Z9 (Keep.of_wr W12).1
  have hk14 := Nat.le_trans hk7 (Keep.of_wr W12).1
  have C14 := CHv.wr W12 sg7_a1 A7.1
  have R14 := R7.trans (CHr.wr W12 sg7_a1 A7.1)
  have sf14_a1 := Safe.wr W12 sg7_a1 A7.1 sg7_a1
  have K14 : Keep h0 h12 [a1] := K9.wr W12 (Or.inl (List.mem_of_getElem? (i := 0) rfl))
  have Fw12 := Fld.same W12 (F1.ext Et7)
  have N12 := Fr.snoc X12 N0 g_a1
  have pre15 : Go p e bl T12 (mkF m 18 #[rv a1, rv a2, iv (0 : Int32), iv (0 : Int32), .val .null, .unset] [(.ref a1)]) s1 EF := fun t k => pre13 t (by
   exact XS.aloadN X12.here hx rfl (B d18_17) rfl rfl k)
  have slt16_a1 := ((E1.ext Et7).wr W12).lt
  obtain ⟨a16, T16, h16, k16, b16, kc16, X16, e16, Et16, hS16, hk16, hZ16, hown16, LE16, LC16, LF16, LV16, lt16, ltb16, A16, Lt16, sfe16, st16⟩ := ldcCH X12 hx hZ7 hown7 (hw _ (mW 20 rfl)) (own_wS hw) e12 hS7 hk14 (own_EW hw) (List.mem_of_getElem? (i := 0) rfl) C14 (vs := []) (z := (0 : Int32)) (by decide +kernel) (by decide) (by decide) (g := (mkF m 18 #[rv a1, rv a2, iv (0 : Int32), iv (0 : Int32), .val .null, .unset] [(.ref a1)])) rfl (B d18_18) (n := 0) (by decide) (by decide) (by decide) (by decide)
  have pre17 : Go p e bl T16 (mkF m 20 #[rv a1, rv a2, iv (0 : Int32), iv (0 : Int32), .val .null, .unset] [(.ref a16), (.ref a1)]) s1 EF := fun t k => pre15 t (st16 t k)
  have O18 : Old Z n0 h16 := O14.ext Et16
  have Z18 : n0 ≤ h16.size := Nat.le_trans Z14 Et16.1
  have K18 : Keep h0 h16 [a1] := K14.ext Et16
  have sg16_a1 := A16.safe slt16_a1 sf14_a1
  have nx16_a1 := sfe16 a1 sg16_a1
  have R16 := R14.trans A16
  obtain ⟨T19, X19, e19, st19⟩ := getF X16 hx hZ16 hown16 (host := "") (Or.inl (hw _ (mW 27 rfl))) Via.refl e16 LC16 (g := (mkF m 20 #[rv a1, rv a2, iv (0 : Int32), iv (0 : Int32), .val .null, .unset] [(.ref a16), (.ref a1)])) rfl rfl (B d18_20)
  have pre20 : Go p e bl T19 (mkF m 23 #[rv a1, rv a2, iv (0 : Int32), iv (0 : Int32), .val .null, .unset] [(.int (0 : Int32)), (.ref a1)]) s1 EF := fun t k => pre17 t (st19 t k)
  obtain ⟨T21, h21, X21, e21, W21, st21⟩ := putFN X19 hx hZ16 hown16 (hw _ (mW 27 rfl)) Via.refl e19 ((Fld.other W12 (F2.ext Et7) (Or.inr (slot_ne (Or.inr (hw _ (mW 23 rfl))) (Or.inr (hw _ (mW 22 rfl))) (by decide) (t := .byte) (t' := (.array .byte)) (by decide) (by decide)))).ext Et16) (((E1.ext Et7).wr W12).ext Et16) (Or.inr ⟨(hw _ (mW 23 rfl)), rfl, hnm⟩) (hw _ (mW 7 rfl)) (ty := .byte) (v' := (.int (0 : Int32))) (by decide) rfl rfl (g := (mkF m 23 #[rv a1, rv a2, iv (0 : Int32), iv (0 : Int32), .val .null, .unset] [(.int (0 : Int32)), (.ref a1)])) rfl rfl (B d18_23)
  have pre22 : Go p e bl T21 (mkF m 26 #[rv a1, rv a2, iv (0 : Int32), iv (0 : Int32), .val .null, .unset] []) s1 EF := fun t k => pre20 t (st21 t k)
  have O23 : Old Z n0 h21 := O18.wr W21 g_a1
  have Z23 : n0 ≤ h21.size := Nat.le_trans Z18 (Keep.of_wr W21).1
  have hk23 := Nat.le_trans hk16 (Keep.of_wr W21).1
  have C23 := CHv.wr W21 sg16_a1 A16.1
  have R23 := R16.trans (CHr.wr W21 sg16_a1 A16.1)
  have sf23_a1 := Safe.wr W21 sg16_a1 A16.1 sg16_a1
  have K23 : Keep h0 h21 [a1] := K18.wr W21 (Or.inl (List.mem_of_getElem? (i := 0) rfl))
  have Fw21 := Fld.same W21 ((Fld.other W12 (F2.ext Et7) (Or.inr (slot_ne (Or.inr (hw _ (mW 23 rfl))) (Or.inr (hw _ (mW 22 rfl))) (by decide) (t := .byte) (t' := (.array .byte)) (by decide) (by decide)))).ext Et16)
  have N21 := Fr.snoc X21 N12 g_a1
  obtain ⟨fs, hr, hrun, hended, hend1, hend2, hend3, hsame⟩ := X21.leaveW hS16 (by rw [e21]; exact hk23) (v := none) (fun _ => rfl)
  have hCH : CHr Z [("java/lang/String", 7)] s.vm s.heap T21.vm T21.heap := by rw [hh, e21]; exact R23.trans (CHv.at X21 hZ16 (own_EW hw) C23)
  refine ⟨_, _, hEF ▸ pre22 _ (X21.returnOut hx Bd.returns (B d18_26) hr), hrun, hended, _, _, rfl, ?_, hCH, hend1, hend2, hend3, hsame.mono (by decide) (by decide)⟩
  show QKi0 Z a1 a2 cz fv k1 h0 n0 _ T21.heap _
  rw [e21]
  exact ⟨rfl, N21, K23, ⟨_, _, _, _, _, ((((E1.ext Et7).wr W12).ext Et16).wr W21), Fw21, (Fld.other W21 (Fw12.ext Et16) (Or.inr (slot_ne (Or.inr (hw _ (mW 22 rfl))) (Or.inr (hw _ (mW 23 rfl))) (by decide) (t := (.array .byte)) (t' := .byte) (by decide) (by decide)))), (((LV7.other W12 (Ne.symm nx7_a1.2)).ext Et16).other W21 (Ne.symm nx7_a1.2)), Nat.le_of_ble_eq_true rfl, Or.inl ⟨rfl, by rfl, rfl, fun _ q => nomatch q⟩⟩⟩
abbrev rKKj0 : Room := { frames := 2, cells := 4, slots := 8, locals := 29 }
theorem efKj0 (m : MethodId) (a1 : Addr) (a2 : Addr) : entryFrame m #[(.ref a1), (.ref a2)] 2 = mkF m 0 #[rv a1, rv a2] [] := by first | (simp [entryFrame, mkF, argsToLocals, Value.category]; done) | rfl
def QKj0 (Z : State) (a1 : Addr) (a2 : Addr) (cz : Int32) (fv : Value) (k1 : ClassId) (h0 : Heap) (n0 : Nat) (v : Option Value) (h : Heap) (L : List Loc) : Prop := v = none ∧ Fr n0 L ∧ Keep h0 h [a1] ∧ Str Z h a1 []
set_option maxRecDepth 65536 in
set_option maxHeartbeats 40000000 in
theorem rmKj0 (l : Launch) (Z : State) (a0 : Array Value) (hw : HW a0 Z) (ws : List Jvm.Cond) (a1 : Addr) (a2 : Addr) (cz : Int32) (fv : Value) (k1 : ClassId) (h0 : Heap) (n0 : Nat) (Z0 : n0 ≤ h0.size) (O0 : Old Z n0 h0) (J0 : Jd Z cz fv) (E1 : Exa Z h0 a1 "java/lang/String") (g_a1 : n0 ≤ a1) (F1 : Fld Z h0 a1 "java/lang/String" "value" "[B" .null) (F2 : Fld Z h0 a1 "java/lang/String" "coder" "B" (.int (0 : Int32))) (V2 : Arv Z h0 a2 k1 .char (0 : Int32) [] (.int (0 : Int32))) :
    MetFree l mN19 (head1 (Jvm.Cond.code mN19 jdk_42_method_3_code 2 none :: ws) rKKj0) (fun a U => a = #[(.ref a1), (.ref a2)] ∧ Z.Warmed39 U.vm ∧ U.heap = h0 ∧ CHv Z [("java/lang/String", 7)] U.vm h0) (fun _ _ _ _ _ => True) (fun _ U o U' => ∃ v L, o = .returned v ∧ QKj0 Z a1 a2 cz fv k1 h0 n0 v U'.heap L ∧ CHr Z [("java/lang/String", 7)] U.vm U.heap U'.vm U'.heap ∧ ReturnedEndW U o U' L rKKj0.cells rKKj0.slots) := by
  refine MetFree.of_bodySF (plainFor_of_name pn0) hisR ?_
  intro p e s m args bl meth c s1 Bd hml0 hP hK
  obtain ⟨rfl, hZ, hh, hC⟩ := hP
  have hx := Bd.exec
  have hby := Bd.bytes
  have B := @hb c _ hby
  have hM := fun {n : Nat} (h : n = 2) => h.trans hml0.symm
  have hown : s.vm.findClass "java/lang/String" = some m.cls := findClass_of_methodNamed Bd.named
  have X0 : Stand p l e rKKj0 (s.setVm s.vm) m #[(.ref a1), (.ref a2)] bl meth c s1 [] 0 0 := Stand.of_body Bd
  have e0 : s1.heap = h0 := by rw [← hh, Bd.state]; rfl
  have N0 := Fr.nil n0
  obtain ⟨EF, hEF⟩ : ∃ f, f = entryFrame m #[(.ref a1), (.ref a2)] 2 := ⟨_, rfl⟩
  have pre0 : Go p e bl s1 (mkF m 0 #[rv a1, rv a2] []) s1 EF := fun t k => by rw [hEF]; exact castTop (efKj0 m a1 a2) k
  have hZ0 : Z.Warmed39 (s.setVm s.vm).vm := hZ
  have hown0 : (s.setVm s.vm).vm.findClass "java/lang/String" = some m.cls := hown
  have hS0 : s.Since s.vm s.heap.size := (State.WarmedH.refl s).since _
  have hk0 : s.heap.size ≤ h0.size := by rw [← hh]; exact Nat.le_refl _
  have sfa : Safe Z [("java/lang/String", 7)] s.vm h0 a1 := own_safe hZ0.alike E1 F1
  have pre1 : Go p e bl s1 (mkF m 4 #[rv a1, rv a2] [(.ref a2), (.int (0 : Int32)), (.ref a2), (.ref a1)]) s1 EF := fun t k => pre0 t (by
   refine XS.aloadN X0.here hx rfl (B d19_0) rfl rfl ?_
   refine XS.aloadN X0.here hx rfl (B d19_1) rfl rfl ?_
   refine XS.iconst X0.here hx rfl (B d19_2) ?_
   exact XS.aloadN X0.here hx rfl (B d19_3) rfl rfl k)
  obtain ⟨cl2, Ar2, q2, Sz2, M2, H2, G2⟩ := id V2
  have pre3 : Go p e bl s1 (mkF m 6 #[rv a1, rv a2] [.null, (.int (0 : Int32)), (.int (0 : Int32)), (.ref a2), (.ref a1)]) s1 EF := fun t k => pre1 t (by
   refine X0.arraylength hx (by rw [e0]; exact Ar2.1) (State.isArrayOf_alike hZ0.alike Ar2.2.1) (g := (mkF m 4 #[rv a1, rv a2] [(.ref a2), (.int (0 : Int32)), (.ref a2), (.ref a1)])) rfl rfl (B d19_4) _ ?_
   rw [len_of Sz2 M2]
   exact XS.aconstNull X0.here hx rfl (B d19_5) k)
  obtain ⟨_, _, ⟨T4, L4, k4, n4⟩, -, XQ4, hSQ4, hgQ4, ⟨Lc4, hQ4, l4, y4, z4, hCH4⟩, st4⟩ := X0.specialBackS hx (y := mN18) rfl hown0 (mvT hZ0 (hw _ (mW 13 rfl))) (mvT hZ0 (hw _ (mW 14 rfl))) (mvT hZ0 (hw _ (mW 16 rfl))) (by decide) (backOfSH (W := 0) (rmKi0 l Z a0 hw [] a1 a2 cz fv k1 h0 n0 Z0 O0 J0 E1 g_a1 F1 F2 V2) hZ0 (hw _ (mW 16 rfl)) (hw _ (mW 8 rfl)) (by decide) (by decide) (own_EW hw) hC) (g := (mkF m 6 #[rv a1, rv a2] [.null, (.int (0 : Int32)), (.int (0 : Int32)), (.ref a2), (.ref a1)])) rfl (hM rfl) (Steps.refl _) (a := a1) (argsL := [(.ref a2), (.int (0 : Int32)), (.int (0 : Int32)), .null]) (rest := []) (lenOf pd13 rfl) rfl (Nat.le_of_eq rfl) (B d19_6) (fun _ _ => ⟨rfl, e0, wl rfl, wl rfl⟩)
  dsimp only [Pt.U, Pt.locs, Pt.cells, Pt.slots] at XQ4 hSQ4 hgQ4 hCH4 l4 y4 z4 st4 hQ4
  subst l4 y4 z4
  obtain ⟨X4, hS4, hZ4, hown4⟩ := rebS hS0 (by rw [e0]; exact hk0) XQ4 hSQ4 hgQ4 hZ0 hown0
  obtain ⟨rfl, N4q, K4, SF4⟩ := hQ4
  have N4 := Fr.app N0 N4q
  have pre5 : Go p e bl T4 (mkF m 9 #[rv a1, rv a2] []) s1 EF := fun t k => pre3 t (st4.trans k)
  have hk4 := Nat.le_refl T4.heap.size
  have R4 := (CHr.refl hC).trans hCH4
  have O6 : Old Z n0 T4.heap := O0.keep K4 (allS g_a1 all0)
  have Z6 : n0 ≤ T4.heap.size := Nat.le_trans Z0 K4.1
  have K6 : Keep h0 T4.heap [a1] := (Keep.refl h0 [a1]).trans K4 (allS (Or.inl (List.mem_of_getElem? (i := 0) rfl)) all0)
  obtain ⟨fs, hr, hrun, hended, hend1, hend2, hend3, hsame⟩ := X4.leaveW hS4 hk4 (v := none) (fun _ => rfl)
  have hCH : CHr Z [("java/lang/String", 7)] s.vm s.heap T4.vm T4.heap := by rw [hh]; exact R4.trans (CHv.at X4 hZ4 (own_EW hw) hCH4.1)
  refine ⟨_, _, hEF ▸ pre5 _ (X4.returnOut hx Bd.returns (B d19_9) hr), hrun, hended, _, _, rfl, ?_, hCH, hend1, hend2, hend3, hsame.mono (by decide) (by decide)⟩
  show QKj0 Z a1 a2 cz fv k1 h0 n0 _ T4.heap _
  exact ⟨rfl, N4, K6, SF4⟩
def tokF (cl : Cell) (c : Int32) : Int32 := if c < 0 then 0 else if c < 128 then (if atv cl c = 0 then 0 else 1) else 0
abbrev rKT : Room := { frames := 0, cells := 0, slots := 0, locals := 0 }
theorem d20_0 : decode prog_11_method_22_code 0 = .ok (.iload_n 0, 1) := by decide +kernel
theorem d20_1 : decode prog_11_method_22_code 1 = .ok (.ifCond .lt 23, 3) := by decide +kernel
theorem d20_4 : decode prog_11_method_22_code 4 = .ok (.iload_n 0, 1) := by decide +kernel
theorem d20_5 : decode prog_11_method_22_code 5 = .ok (.getstatic 262, 3) := by decide +kernel
theorem d20_8 : decode prog_11_method_22_code 8 = .ok (.arraylength, 1) := by decide +kernel
theorem d20_9 : decode prog_11_method_22_code 9 = .ok (.if_icmp .ge 15, 3) := by decide +kernel
theorem d20_12 : decode prog_11_method_22_code 12 = .ok (.getstatic 262, 3) := by decide +kernel
theorem d20_15 : decode prog_11_method_22_code 15 = .ok (.iload_n 0, 1) := by decide +kernel
theorem d20_16 : decode prog_11_method_22_code 16 = .ok (.baload, 1) := by decide +kernel
theorem d20_17 : decode prog_11_method_22_code 17 = .ok (.ifCond .eq 7, 3) := by decide +kernel
theorem d20_20 : decode prog_11_method_22_code 20 = .ok (.iconst 1, 1) := by decide +kernel
theorem d20_21 : decode prog_11_method_22_code 21 = .ok (.goto 4, 3) := by decide +kernel
theorem d20_24 : decode prog_11_method_22_code 24 = .ok (.iconst 0, 1) := by decide +kernel
theorem d20_25 : decode prog_11_method_22_code 25 = .ok (.ireturn, 1) := by decide +kernel
theorem pn4 : plainName "com/example/oxpecker/oxpecker/http/HttpInput" = true := by first | (simp [plainName, overriddenIn]; done) | decide +kernel
theorem efT (m : MethodId) (p1 : Int32) : entryFrame m #[(.int p1)] 1 = mkF m 0 #[iv p1] [] := by first | (simp [entryFrame, mkF, argsToLocals, Value.category]; done) | rfl
def QT (Z : State) (p1 : Int32) (ta : Addr) (cl : Cell) (r : Int32) (h0 : Heap) (n0 : Nat) (v : Option Value) (h : Heap) (L : List Loc) : Prop := v = some (.int r) ∧ Fr n0 L ∧ h = h0
set_option maxRecDepth 65536 in
set_option maxHeartbeats 40000000 in
theorem rmT (l : Launch) (Z : State) (a0 : Array Value) (hw : HW a0 Z) (ws : List Jvm.Cond) (p1 : Int32) (ta : Addr) (cl : Cell) (r : Int32) (h0 : Heap) (n0 : Nat) (Z0 : n0 ≤ h0.size) (S0 : Sta Z h0 "com/example/oxpecker/oxpecker/http/HttpInput" "TOKEN" "[Z" (.ref ta)) (TB : Tab Z h0 ta cl .boolean 128) (hR : tokF cl p1 = r) :
    MF l Z mN20 prog_11_method_22_code 1 (some .boolean) ws rKT #[(.int p1)] h0 (QT Z p1 ta cl r h0 n0) := by
  refine MetFree.of_bodySF (plainFor_of_name pn4) hisR ?_
  intro p e s m args bl meth c s1 Bd hml0 hP hK
  obtain ⟨rfl, hZ, hh⟩ := hP
  have hx := Bd.exec
  have hby := Bd.bytes
  have B := @hb c _ hby
  have hown : s.vm.findClass "com/example/oxpecker/oxpecker/http/HttpInput" = some m.cls := findClass_of_methodNamed Bd.named
  have hlk : meth.locks = false := BodyLoose.notSynchronized Bd
  have hrt : ∀ {v : Option Value}, meth.sig.returnType = none → v = none := fun h => by rw [Bd.returns] at h; cases h
  have X0 : Stand p l e rKT s m #[(.int p1)] bl meth c s1 [] 0 0 := Stand.of_body Bd
  have e0 : s1.heap = h0 := by rw [← hh, Bd.state]; rfl
  have N0 := Fr.nil n0
  obtain ⟨EF, hEF⟩ : ∃ f, f = entryFrame m #[(.int p1)] 1 := ⟨_, rfl⟩
  have pre0 : Go p e bl s1 (mkF m 0 #[iv p1] []) s1 EF := fun t k => by rw [hEF]; exact castTop (efT m p1) k
  have pre1 : Go p e bl s1 (mkF m 1 #[iv p1] [(.int p1)]) s1 EF := fun t k => pre0 t (by
   exact XS.iloadN X0.here hx rfl (B d20_0) rfl k)
  by_cases hc1 : p1 < (0 : Int32)
  · have pre2 : Go p e bl s1 (mkF m 24 #[iv p1] []) s1 EF := fun t k => pre1 t (XS.ifYes X0.here hx rfl (pc0 := 1) (pc' := 24) rfl (B d20_1) rfl ((if0 _ _).trans (tlt hc1).1) (by decide) (by decide) k)
    have pre3 : Go p e bl s1 (mkF m 25 #[iv p1] [(.int (0 : Int32))]) s1 EF := fun t k => pre2 t (by
     exact XS.iconst X0.here hx rfl (B d20_24) k)
    have hnr : Value.int (nar .boolean (0 : Int32)) = (.int (0 : Int32)) := by rfl
    exact fin1 X0 (v := some (.int (0 : Int32))) hrt hlk (wl rfl) (wl rfl) (by rw [e0]; exact ⟨by rw [← hR]; simp [tokF, hc1], N0, rfl⟩) (fun fs hr => hEF ▸ pre3 _ (retN X0 hx (t := .boolean) Bd.returns (by simp) (B d20_25) (hnr ▸ hr)))
  have pre4 : Go p e bl s1 (mkF m 4 #[iv p1] []) s1 EF := fun t k => pre1 t (XS.ifNo X0.here hx rfl (B d20_1) rfl ((if0 _ _).trans (flt hc1).1) k)
  have pre5 : Go p e bl s1 (mkF m 5 #[iv p1] [(.int p1)]) s1 EF := fun t k => pre4 t (by
   exact XS.iloadN X0.here hx rfl (B d20_4) rfl k)
  obtain ⟨T6, X6, e6, st6⟩ := getS2 X0 hx hZ hown (host := "") (Or.inl (hw _ (mW 81 rfl))) Via.refl e0 S0 (g := (mkF m 5 #[iv p1] [(.int p1)])) rfl (B d20_5)
  have pre7 : Go p e bl T6 (mkF m 8 #[iv p1] [(.ref ta), (.int p1)]) s1 EF := fun t k => pre5 t (st6 t k)
  have pre8 : Go p e bl T6 (mkF m 9 #[iv p1] [(.int (128 : Int32)), (.int p1)]) s1 EF := fun t k => pre7 t (by
   refine X6.arraylength hx (by rw [e6]; exact TB.1.1) (State.isArrayOf_alike hZ.alike TB.1.2.1) (g := (mkF m 8 #[iv p1] [(.ref ta), (.int p1)])) rfl rfl (B d20_8) _ ?_
   rw [len_of TB.2.1 TB.2.2.1]
   exact k)
  by_cases hc9 : p1 < (128 : Int32)
  · have pre9 : Go p e bl T6 (mkF m 12 #[iv p1] []) s1 EF := fun t k => pre8 t (XS.icmpNo X6.here hx rfl (B d20_9) rfl (tlt hc9).2.1 k)
    obtain ⟨T10, X10, e10, st10⟩ := getS2 X6 hx hZ hown (host := "") (Or.inl (hw _ (mW 81 rfl))) Via.refl e6 S0 (g := (mkF m 12 #[iv p1] [])) rfl (B d20_12)
    have pre11 : Go p e bl T10 (mkF m 15 #[iv p1] [(.ref ta)]) s1 EF := fun t k => pre9 t (st10 t k)
    have pre12 : Go p e bl T10 (mkF m 16 #[iv p1] [(.int p1), (.ref ta)]) s1 EF := fun t k => pre11 t (by
     exact XS.iloadN X10.here hx rfl (B d20_15) rfl k)
    have hin : ¬ (p1 < 0 ∨ cl.slots.size ≤ p1.toNatClampNeg) := inb_of TB.2.1 ⟨hc1, hc9⟩
    have pre13 : Go p e bl T10 (mkF m 17 #[iv p1] [(.int (atv cl p1))]) s1 EF := fun t k => pre12 t (by
     exact X10.baloadBooleans hx (j := p1) (v := .int (atv cl p1)) (by rw [e10]; exact TB.1.1) (State.isArrayOf_alike hZ.alike TB.1.2.1) TB.1.2.2 hin (TB.2.2.2 p1 hin) (g := (mkF m 16 #[iv p1] [(.int p1), (.ref ta)])) rfl rfl (B d20_16) _ k)
    by_cases hc17 : (atv cl p1) = (0 : Int32)
    · have pre14 : Go p e bl T10 (mkF m 24 #[iv p1] []) s1 EF := fun t k => pre13 t (XS.ifYes X10.here hx rfl (pc0 := 17) (pc' := 24) rfl (B d20_17) rfl ((if0 _ _).trans (teq hc17).1) (by decide) (by decide) k)
      have pre15 : Go p e bl T10 (mkF m 25 #[iv p1] [(.int (0 : Int32))]) s1 EF := fun t k => pre14 t (by
       exact XS.iconst X10.here hx rfl (B d20_24) k)
      have hnr : Value.int (nar .boolean (0 : Int32)) = (.int (0 : Int32)) := by rfl
      exact fin1 X10 (v := some (.int (0 : Int32))) hrt hlk (wl rfl) (wl rfl) (by rw [e10]; exact ⟨by rw [← hR]; simp [tokF, hc1, hc9, hc17], N0, rfl⟩) (fun fs hr => hEF ▸ pre15 _ (retN X10 hx (t := .boolean) Bd.returns (by simp) (B d20_25) (hnr ▸ hr)))
    have pre16 : Go p e bl T10 (mkF m 20 #[iv p1] []) s1 EF := fun t k => pre13 t (XS.ifNo X10.here hx rfl (B d20_17) rfl ((if0 _ _).trans (feq hc17).1) k)
    have pre17 : Go p e bl T10 (mkF m 25 #[iv p1] [(.int (1 : Int32))]) s1 EF := fun t k => pre16 t (by
     refine XS.iconst X10.here hx rfl (B d20_20) ?_
     exact XS.goto X10.here hx rfl (pc0 := 21) (pc' := 25) rfl (B d20_21) (by decide) (by decide) k)
    have hnr : Value.int (nar .boolean (1 : Int32)) = (.int (1 : Int32)) := by rfl
    exact fin1 X10 (v := some (.int (1 : Int32))) hrt hlk (wl rfl) (wl rfl) (by rw [e10]; exact ⟨by rw [← hR]; simp [tokF, hc1, hc9, hc17], N0, rfl⟩) (fun fs hr => hEF ▸ pre17 _ (retN X10 hx (t := .boolean) Bd.returns (by simp) (B d20_25) (hnr ▸ hr)))
  have pre18 : Go p e bl T6 (mkF m 24 #[iv p1] []) s1 EF := fun t k => pre8 t (XS.icmpYes X6.here hx rfl (pc0 := 9) (pc' := 24) rfl (B d20_9) rfl (flt hc9).2.1 (by decide) (by decide) k)
  have pre19 : Go p e bl T6 (mkF m 25 #[iv p1] [(.int (0 : Int32))]) s1 EF := fun t k => pre18 t (by
   exact XS.iconst X6.here hx rfl (B d20_24) k)
  have hnr : Value.int (nar .boolean (0 : Int32)) = (.int (0 : Int32)) := by rfl
  exact fin1 X6 (v := some (.int (0 : Int32))) hrt hlk (wl rfl) (wl rfl) (by rw [e6]; exact ⟨by rw [← hR]; simp [tokF, hc1, hc9], N0, rfl⟩) (fun fs hr => hEF ▸ pre19 _ (retN X6 hx (t := .boolean) Bd.returns (by simp) (B d20_25) (hnr ▸ hr)))
theorem own_l0 : (0 : Int32).toInt = 0 := by decide
theorem own_l33 : (33 : Int32).toInt = 33 := by decide
theorem own_l35 : (35 : Int32).toInt = 35 := by decide
theorem own_l36 : (36 : Int32).toInt = 36 := by decide
theorem own_l37 : (37 : Int32).toInt = 37 := by decide
theorem own_l38 : (38 : Int32).toInt = 38 := by decide
theorem own_l39 : (39 : Int32).toInt = 39 := by decide
theorem own_l42 : (42 : Int32).toInt = 42 := by decide
theorem own_l43 : (43 : Int32).toInt = 43 := by decide
theorem own_l45 : (45 : Int32).toInt = 45 := by decide
theorem own_l46 : (46 : Int32).toInt = 46 := by decide
theorem own_l48 : (48 : Int32).toInt = 48 := by decide
theorem own_l57 : (57 : Int32).toInt = 57 := by decide
theorem own_l65 : (65 : Int32).toInt = 65 := by decide
theorem own_l90 : (90 : Int32).toInt = 90 := by decide
theorem own_l94 : (94 : Int32).toInt = 94 := by decide
theorem own_l95 : (95 : Int32).toInt = 95 := by decide
theorem own_l96 : (96 : Int32).toInt = 96 := by decide
theorem own_l97 : (97 : Int32).toInt = 97 := by decide
theorem own_l122 : (122 : Int32).toInt = 122 := by decide
theorem own_l124 : (124 : Int32).toInt = 124 := by decide
theorem own_l126 : (126 : Int32).toInt = 126 := by decide
theorem own_l128 : (128 : Int32).toInt = 128 := by decide
def expF (c : Int32) : Int32 := if ¬ c < 48 ∧ ¬ 57 < c then 1 else if ¬ c < 97 ∧ ¬ 122 < c then 1 else if ¬ c < 65 ∧ ¬ 90 < c then 1 else if c = 33 ∨ c = 35 ∨ c = 36 ∨ c = 37 ∨ c = 38 ∨ c = 39 ∨ c = 42 ∨ c = 43 ∨ c = 45 ∨ c = 46 ∨ c = 94 ∨ c = 95 ∨ c = 96 ∨ c = 124 ∨ c = 126 then 1 else 0
abbrev rKE : Room := { frames := 0, cells := 0, slots := 0, locals := 0 }
theorem d21_0 : decode method_2_code 0 = .ok (.iload_n 0, 1) := by decide +kernel
theorem d21_1 : decode method_2_code 1 = .ok (.bipush 48, 2) := by decide +kernel
theorem d21_3 : decode method_2_code 3 = .ok (.if_icmp .lt 11, 3) := by decide +kernel
theorem d21_6 : decode method_2_code 6 = .ok (.iload_n 0, 1) := by decide +kernel
theorem d21_7 : decode method_2_code 7 = .ok (.bipush 57, 2) := by decide +kernel
theorem d21_9 : decode method_2_code 9 = .ok (.if_icmp .gt 5, 3) := by decide +kernel
theorem d21_12 : decode method_2_code 12 = .ok (.iconst 1, 1) := by decide +kernel
theorem d21_13 : decode method_2_code 13 = .ok (.ireturn, 1) := by decide +kernel
theorem d21_14 : decode method_2_code 14 = .ok (.iload_n 0, 1) := by decide +kernel
theorem d21_15 : decode method_2_code 15 = .ok (.bipush 97, 2) := by decide +kernel
theorem d21_17 : decode method_2_code 17 = .ok (.if_icmp .lt 11, 3) := by decide +kernel
theorem d21_20 : decode method_2_code 20 = .ok (.iload_n 0, 1) := by decide +kernel
theorem d21_21 : decode method_2_code 21 = .ok (.bipush 122, 2) := by decide +kernel
theorem d21_23 : decode method_2_code 23 = .ok (.if_icmp .gt 5, 3) := by decide +kernel
theorem d21_26 : decode method_2_code 26 = .ok (.iconst 1, 1) := by decide +kernel
theorem d21_27 : decode method_2_code 27 = .ok (.ireturn, 1) := by decide +kernel
theorem d21_28 : decode method_2_code 28 = .ok (.iload_n 0, 1) := by decide +kernel
theorem d21_29 : decode method_2_code 29 = .ok (.bipush 65, 2) := by decide +kernel
theorem d21_31 : decode method_2_code 31 = .ok (.if_icmp .lt 11, 3) := by decide +kernel
theorem d21_34 : decode method_2_code 34 = .ok (.iload_n 0, 1) := by decide +kernel
theorem d21_35 : decode method_2_code 35 = .ok (.bipush 90, 2) := by decide +kernel
theorem d21_37 : decode method_2_code 37 = .ok (.if_icmp .gt 5, 3) := by decide +kernel
theorem d21_40 : decode method_2_code 40 = .ok (.iconst 1, 1) := by decide +kernel
theorem d21_41 : decode method_2_code 41 = .ok (.ireturn, 1) := by decide +kernel
theorem d21_42 : decode method_2_code 42 = .ok (.iload_n 0, 1) := by decide +kernel
theorem d21_43 : decode method_2_code 43 = .ok (.bipush 33, 2) := by decide +kernel
theorem d21_45 : decode method_2_code 45 = .ok (.if_icmp .eq 87, 3) := by decide +kernel
theorem d21_48 : decode method_2_code 48 = .ok (.iload_n 0, 1) := by decide +kernel
theorem d21_49 : decode method_2_code 49 = .ok (.bipush 35, 2) := by decide +kernel
theorem d21_51 : decode method_2_code 51 = .ok (.if_icmp .eq 81, 3) := by decide +kernel
theorem d21_54 : decode method_2_code 54 = .ok (.iload_n 0, 1) := by decide +kernel
theorem d21_55 : decode method_2_code 55 = .ok (.bipush 36, 2) := by decide +kernel
theorem d21_57 : decode method_2_code 57 = .ok (.if_icmp .eq 75, 3) := by decide +kernel
theorem d21_60 : decode method_2_code 60 = .ok (.iload_n 0, 1) := by decide +kernel
theorem d21_61 : decode method_2_code 61 = .ok (.bipush 37, 2) := by decide +kernel
theorem d21_63 : decode method_2_code 63 = .ok (.if_icmp .eq 69, 3) := by decide +kernel
theorem d21_66 : decode method_2_code 66 = .ok (.iload_n 0, 1) := by decide +kernel
theorem d21_67 : decode method_2_code 67 = .ok (.bipush 38, 2) := by decide +kernel
theorem d21_69 : decode method_2_code 69 = .ok (.if_icmp .eq 63, 3) := by decide +kernel
theorem d21_72 : decode method_2_code 72 = .ok (.iload_n 0, 1) := by decide +kernel
theorem d21_73 : decode method_2_code 73 = .ok (.bipush 39, 2) := by decide +kernel
theorem d21_75 : decode method_2_code 75 = .ok (.if_icmp .eq 57, 3) := by decide +kernel
theorem d21_78 : decode method_2_code 78 = .ok (.iload_n 0, 1) := by decide +kernel
theorem d21_79 : decode method_2_code 79 = .ok (.bipush 42, 2) := by decide +kernel
theorem d21_81 : decode method_2_code 81 = .ok (.if_icmp .eq 51, 3) := by decide +kernel
theorem d21_84 : decode method_2_code 84 = .ok (.iload_n 0, 1) := by decide +kernel
theorem d21_85 : decode method_2_code 85 = .ok (.bipush 43, 2) := by decide +kernel
theorem d21_87 : decode method_2_code 87 = .ok (.if_icmp .eq 45, 3) := by decide +kernel
theorem d21_90 : decode method_2_code 90 = .ok (.iload_n 0, 1) := by decide +kernel
theorem d21_91 : decode method_2_code 91 = .ok (.bipush 45, 2) := by decide +kernel
theorem d21_93 : decode method_2_code 93 = .ok (.if_icmp .eq 39, 3) := by decide +kernel
theorem d21_96 : decode method_2_code 96 = .ok (.iload_n 0, 1) := by decide +kernel
theorem d21_97 : decode method_2_code 97 = .ok (.bipush 46, 2) := by decide +kernel
theorem d21_99 : decode method_2_code 99 = .ok (.if_icmp .eq 33, 3) := by decide +kernel
theorem d21_102 : decode method_2_code 102 = .ok (.iload_n 0, 1) := by decide +kernel
theorem d21_103 : decode method_2_code 103 = .ok (.bipush 94, 2) := by decide +kernel
theorem d21_105 : decode method_2_code 105 = .ok (.if_icmp .eq 27, 3) := by decide +kernel
theorem d21_108 : decode method_2_code 108 = .ok (.iload_n 0, 1) := by decide +kernel
theorem d21_109 : decode method_2_code 109 = .ok (.bipush 95, 2) := by decide +kernel
theorem d21_111 : decode method_2_code 111 = .ok (.if_icmp .eq 21, 3) := by decide +kernel
theorem d21_114 : decode method_2_code 114 = .ok (.iload_n 0, 1) := by decide +kernel
theorem d21_115 : decode method_2_code 115 = .ok (.bipush 96, 2) := by decide +kernel
theorem d21_117 : decode method_2_code 117 = .ok (.if_icmp .eq 15, 3) := by decide +kernel
theorem d21_120 : decode method_2_code 120 = .ok (.iload_n 0, 1) := by decide +kernel
theorem d21_121 : decode method_2_code 121 = .ok (.bipush 124, 2) := by decide +kernel
theorem d21_123 : decode method_2_code 123 = .ok (.if_icmp .eq 9, 3) := by decide +kernel
theorem d21_126 : decode method_2_code 126 = .ok (.iload_n 0, 1) := by decide +kernel
theorem d21_127 : decode method_2_code 127 = .ok (.bipush 126, 2) := by decide +kernel
theorem d21_129 : decode method_2_code 129 = .ok (.if_icmp .ne 7, 3) := by decide +kernel
theorem d21_132 : decode method_2_code 132 = .ok (.iconst 1, 1) := by decide +kernel
theorem d21_133 : decode method_2_code 133 = .ok (.goto 4, 3) := by decide +kernel
theorem d21_136 : decode method_2_code 136 = .ok (.iconst 0, 1) := by decide +kernel
theorem d21_137 : decode method_2_code 137 = .ok (.ireturn, 1) := by decide +kernel
theorem pn5 : plainName "com/example/oxpecker/oxpecker/http/HttpInputTokenEndPinLaw" = true := by first | (simp [plainName, overriddenIn]; done) | decide +kernel
theorem efE (m : MethodId) (p1 : Int32) : entryFrame m #[(.int p1)] 1 = mkF m 0 #[iv p1] [] := by first | (simp [entryFrame, mkF, argsToLocals, Value.category]; done) | rfl
def QE (Z : State) (p1 : Int32) (r : Int32) (h0 : Heap) (n0 : Nat) (v : Option Value) (h : Heap) (L : List Loc) : Prop := v = some (.int r) ∧ Fr n0 L ∧ h = h0
set_option maxRecDepth 65536 in
set_option maxHeartbeats 40000000 in
theorem rmE (l : Launch) (Z : State) (a0 : Array Value) (hw : HW a0 Z) (ws : List Jvm.Cond) (p1 : Int32) (r : Int32) (h0 : Heap) (n0 : Nat) (Z0 : n0 ≤ h0.size) (hR : expF p1 = r) :
    MF l Z mN21 method_2_code 1 (some .boolean) ws rKE #[(.int p1)] h0 (QE Z p1 r h0 n0) := by
  refine MetFree.of_bodySF (plainFor_of_name pn5) hisR ?_
  intro p e s m args bl meth c s1 Bd hml0 hP hK
  obtain ⟨rfl, hZ, hh⟩ := hP
  have hx := Bd.exec
  have hby := Bd.bytes
  have B := @hb c _ hby
  have hown : s.vm.findClass "com/example/oxpecker/oxpecker/http/HttpInputTokenEndPinLaw" = some m.cls := findClass_of_methodNamed Bd.named
  have hlk : meth.locks = false := BodyLoose.notSynchronized Bd
  have hrt : ∀ {v : Option Value}, meth.sig.returnType = none → v = none := fun h => by rw [Bd.returns] at h; cases h
  have X0 : Stand p l e rKE s m #[(.int p1)] bl meth c s1 [] 0 0 := Stand.of_body Bd
  have e0 : s1.heap = h0 := by rw [← hh, Bd.state]; rfl
  have N0 := Fr.nil n0
  obtain ⟨EF, hEF⟩ : ∃ f, f = entryFrame m #[(.int p1)] 1 := ⟨_, rfl⟩
  have pre0 : Go p e bl s1 (mkF m 0 #[iv p1] []) s1 EF := fun t k => by rw [hEF]; exact castTop (efE m p1) k
  have pre1 : Go p e bl s1 (mkF m 3 #[iv p1] [(.int (48 : Int32)), (.int p1)]) s1 EF := fun t k => pre0 t (by
   refine XS.iloadN X0.here hx rfl (B d21_0) rfl ?_
   exact XS.bipush X0.here hx rfl (B d21_1) k)
  by_cases hc3 : p1 < (48 : Int32)
  · have pre2 : Go p e bl s1 (mkF m 14 #[iv p1] []) s1 EF := fun t k => pre1 t (XS.icmpYes X0.here hx rfl (pc0 := 3) (pc' := 14) rfl (B d21_3) rfl (tlt hc3).1 (by decide) (by decide) k)
    have pre3 : Go p e bl s1 (mkF m 17 #[iv p1] [(.int (97 : Int32)), (.int p1)]) s1 EF := fun t k => pre2 t (by
     refine XS.iloadN X0.here hx rfl (B d21_14) rfl ?_
     exact XS.bipush X0.here hx rfl (B d21_15) k)
    by_cases hc17 : p1 < (97 : Int32)
    · have pre4 : Go p e bl s1 (mkF m 28 #[iv p1] []) s1 EF := fun t k => pre3 t (XS.icmpYes X0.here hx rfl (pc0 := 17) (pc' := 28) rfl (B d21_17) rfl (tlt hc17).1 (by decide) (by decide) k)
      have pre5 : Go p e bl s1 (mkF m 31 #[iv p1] [(.int (65 : Int32)), (.int p1)]) s1 EF := fun t k => pre4 t (by
       refine XS.iloadN X0.here hx rfl (B d21_28) rfl ?_
       exact XS.bipush X0.here hx rfl (B d21_29) k)
      by_cases hc31 : p1 < (65 : Int32)
      · have pre6 : Go p e bl s1 (mkF m 42 #[iv p1] []) s1 EF := fun t k => pre5 t (XS.icmpYes X0.here hx rfl (pc0 := 31) (pc' := 42) rfl (B d21_31) rfl (tlt hc31).1 (by decide) (by decide) k)
        have pre7 : Go p e bl s1 (mkF m 45 #[iv p1] [(.int (33 : Int32)), (.int p1)]) s1 EF := fun t k => pre6 t (by
         refine XS.iloadN X0.here hx rfl (B d21_42) rfl ?_
         exact XS.bipush X0.here hx rfl (B d21_43) k)
        by_cases hc45 : p1 = (33 : Int32)
        · have pre8 : Go p e bl s1 (mkF m 132 #[iv p1] []) s1 EF := fun t k => pre7 t (XS.icmpYes X0.here hx rfl (pc0 := 45) (pc' := 132) rfl (B d21_45) rfl (teq hc45).1 (by decide) (by decide) k)
          have pre9 : Go p e bl s1 (mkF m 137 #[iv p1] [(.int (1 : Int32))]) s1 EF := fun t k => pre8 t (by
           refine XS.iconst X0.here hx rfl (B d21_132) ?_
           exact XS.goto X0.here hx rfl (pc0 := 133) (pc' := 137) rfl (B d21_133) (by decide) (by decide) k)
          have hnr : Value.int (nar .boolean (1 : Int32)) = (.int (1 : Int32)) := by rfl
          exact fin1 X0 (v := some (.int (1 : Int32))) hrt hlk (wl rfl) (wl rfl) (by rw [e0]; exact ⟨by rw [← hR]; simp [expF, hc3, hc17, hc31, hc45], N0, rfl⟩) (fun fs hr => hEF ▸ pre9 _ (retN X0 hx (t := .boolean) Bd.returns (by simp) (B d21_137) (hnr ▸ hr)))
        have pre10 : Go p e bl s1 (mkF m 48 #[iv p1] []) s1 EF := fun t k => pre7 t (XS.icmpNo X0.here hx rfl (B d21_45) rfl (feq hc45).1 k)
        have pre11 : Go p e bl s1 (mkF m 51 #[iv p1] [(.int (35 : Int32)), (.int p1)]) s1 EF := fun t k => pre10 t (by
         refine XS.iloadN X0.here hx rfl (B d21_48) rfl ?_
         exact XS.bipush X0.here hx rfl (B d21_49) k)
        by_cases hc51 : p1 = (35 : Int32)
        · have pre12 : Go p e bl s1 (mkF m 132 #[iv p1] []) s1 EF := fun t k => pre11 t (XS.icmpYes X0.here hx rfl (pc0 := 51) (pc' := 132) rfl (B d21_51) rfl (teq hc51).1 (by decide) (by decide) k)
          have pre13 : Go p e bl s1 (mkF m 137 #[iv p1] [(.int (1 : Int32))]) s1 EF := fun t k => pre12 t (by
           refine XS.iconst X0.here hx rfl (B d21_132) ?_
           exact XS.goto X0.here hx rfl (pc0 := 133) (pc' := 137) rfl (B d21_133) (by decide) (by decide) k)
          have hnr : Value.int (nar .boolean (1 : Int32)) = (.int (1 : Int32)) := by rfl
          exact fin1 X0 (v := some (.int (1 : Int32))) hrt hlk (wl rfl) (wl rfl) (by rw [e0]; exact ⟨by rw [← hR]; simp [expF, hc3, hc17, hc31, hc45, hc51], N0, rfl⟩) (fun fs hr => hEF ▸ pre13 _ (retN X0 hx (t := .boolean) Bd.returns (by simp) (B d21_137) (hnr ▸ hr)))
        have pre14 : Go p e bl s1 (mkF m 54 #[iv p1] []) s1 EF := fun t k => pre11 t (XS.icmpNo X0.here hx rfl (B d21_51) rfl (feq hc51).1 k)
        have pre15 : Go p e bl s1 (mkF m 57 #[iv p1] [(.int (36 : Int32)), (.int p1)]) s1 EF := fun t k => pre14 t (by
         refine XS.iloadN X0.here hx rfl (B d21_54) rfl ?_
         exact XS.bipush X0.here hx rfl (B d21_55) k)
        by_cases hc57 : p1 = (36 : Int32)
        · have pre16 : Go p e bl s1 (mkF m 132 #[iv p1] []) s1 EF := fun t k => pre15 t (XS.icmpYes X0.here hx rfl (pc0 := 57) (pc' := 132) rfl (B d21_57) rfl (teq hc57).1 (by decide) (by decide) k)
          have pre17 : Go p e bl s1 (mkF m 137 #[iv p1] [(.int (1 : Int32))]) s1 EF := fun t k => pre16 t (by
           refine XS.iconst X0.here hx rfl (B d21_132) ?_
           exact XS.goto X0.here hx rfl (pc0 := 133) (pc' := 137) rfl (B d21_133) (by decide) (by decide) k)
          have hnr : Value.int (nar .boolean (1 : Int32)) = (.int (1 : Int32)) := by rfl
          exact fin1 X0 (v := some (.int (1 : Int32))) hrt hlk (wl rfl) (wl rfl) (by rw [e0]; exact ⟨by rw [← hR]; simp [expF, hc3, hc17, hc31, hc45, hc51, hc57], N0, rfl⟩) (fun fs hr => hEF ▸ pre17 _ (retN X0 hx (t := .boolean) Bd.returns (by simp) (B d21_137) (hnr ▸ hr)))
        have pre18 : Go p e bl s1 (mkF m 60 #[iv p1] []) s1 EF := fun t k => pre15 t (XS.icmpNo X0.here hx rfl (B d21_57) rfl (feq hc57).1 k)
        have pre19 : Go p e bl s1 (mkF m 63 #[iv p1] [(.int (37 : Int32)), (.int p1)]) s1 EF := fun t k => pre18 t (by
         refine XS.iloadN X0.here hx rfl (B d21_60) rfl ?_
         exact XS.bipush X0.here hx rfl (B d21_61) k)
        by_cases hc63 : p1 = (37 : Int32)
        · have pre20 : Go p e bl s1 (mkF m 132 #[iv p1] []) s1 EF := fun t k => pre19 t (XS.icmpYes X0.here hx rfl (pc0 := 63) (pc' := 132) rfl (B d21_63) rfl (teq hc63).1 (by decide) (by decide) k)
          have pre21 : Go p e bl s1 (mkF m 137 #[iv p1] [(.int (1 : Int32))]) s1 EF := fun t k => pre20 t (by
           refine XS.iconst X0.here hx rfl (B d21_132) ?_
           exact XS.goto X0.here hx rfl (pc0 := 133) (pc' := 137) rfl (B d21_133) (by decide) (by decide) k)
          have hnr : Value.int (nar .boolean (1 : Int32)) = (.int (1 : Int32)) := by rfl
          exact fin1 X0 (v := some (.int (1 : Int32))) hrt hlk (wl rfl) (wl rfl) (by rw [e0]; exact ⟨by rw [← hR]; simp [expF, hc3, hc17, hc31, hc45, hc51, hc57, hc63], N0, rfl⟩) (fun fs hr => hEF ▸ pre21 _ (retN X0 hx (t := .boolean) Bd.returns (by simp) (B d21_137) (hnr ▸ hr)))
        have pre22 : Go p e bl s1 (mkF m 66 #[iv p1] []) s1 EF := fun t k => pre19 t (XS.icmpNo X0.here hx rfl (B d21_63) rfl (feq hc63).1 k)
        have pre23 : Go p e bl s1 (mkF m 69 #[iv p1] [(.int (38 : Int32)), (.int p1)]) s1 EF := fun t k => pre22 t (by
         refine XS.iloadN X0.here hx rfl (B d21_66) rfl ?_
         exact XS.bipush X0.here hx rfl (B d21_67) k)
        by_cases hc69 : p1 = (38 : Int32)
        · have pre24 : Go p e bl s1 (mkF m 132 #[iv p1] []) s1 EF := fun t k => pre23 t (XS.icmpYes X0.here hx rfl (pc0 := 69) (pc' := 132) rfl (B d21_69) rfl (teq hc69).1 (by decide) (by decide) k)
          have pre25 : Go p e bl s1 (mkF m 137 #[iv p1] [(.int (1 : Int32))]) s1 EF := fun t k => pre24 t (by
           refine XS.iconst X0.here hx rfl (B d21_132) ?_
           exact XS.goto X0.here hx rfl (pc0 := 133) (pc' := 137) rfl (B d21_133) (by decide) (by decide) k)
          have hnr : Value.int (nar .boolean (1 : Int32)) = (.int (1 : Int32)) := by rfl
          exact fin1 X0 (v := some (.int (1 : Int32))) hrt hlk (wl rfl) (wl rfl) (by rw [e0]; exact ⟨by rw [← hR]; simp [expF, hc3, hc17, hc31, hc45, hc51, hc57, hc63, hc69], N0, rfl⟩) (fun fs hr => hEF ▸ pre25 _ (retN X0 hx (t := .boolean) Bd.returns (by simp) (B d21_137) (hnr ▸ hr)))
        have pre26 : Go p e bl s1 (mkF m 72 #[iv p1] []) s1 EF := fun t k => pre23 t (XS.icmpNo X0.here hx rfl (B d21_69) rfl (feq hc69).1 k)
        have pre27 : Go p e bl s1 (mkF m 75 #[iv p1] [(.int (39 : Int32)), (.int p1)]) s1 EF := fun t k => pre26 t (by
         refine XS.iloadN X0.here hx rfl (B d21_72) rfl ?_
         exact XS.bipush X0.here hx rfl (B d21_73) k)
        by_cases hc75 : p1 = (39 : Int32)
        · have pre28 : Go p e bl s1 (mkF m 132 #[iv p1] []) s1 EF := fun t k => pre27 t (XS.icmpYes X0.here hx rfl (pc0 := 75) (pc' := 132) rfl (B d21_75) rfl (teq hc75).1 (by decide) (by decide) k)
          have pre29 : Go p e bl s1 (mkF m 137 #[iv p1] [(.int (1 : Int32))]) s1 EF := fun t k => pre28 t (by
           refine XS.iconst X0.here hx rfl (B d21_132) ?_
           exact XS.goto X0.here hx rfl (pc0 := 133) (pc' := 137) rfl (B d21_133) (by decide) (by decide) k)
          have hnr : Value.int (nar .boolean (1 : Int32)) = (.int (1 : Int32)) := by rfl
          exact fin1 X0 (v := some (.int (1 : Int32))) hrt hlk (wl rfl) (wl rfl) (by rw [e0]; exact ⟨by rw [← hR]; simp [expF, hc3, hc17, hc31, hc45, hc51, hc57, hc63, hc69, hc75], N0, rfl⟩) (fun fs hr => hEF ▸ pre29 _ (retN X0 hx (t := .boolean) Bd.returns (by simp) (B d21_137) (hnr ▸ hr)))
        have pre30 : Go p e bl s1 (mkF m 78 #[iv p1] []) s1 EF := fun t k => pre27 t (XS.icmpNo X0.here hx rfl (B d21_75) rfl (feq hc75).1 k)
        have pre31 : Go p e bl s1 (mkF m 81 #[iv p1] [(.int (42 : Int32)), (.int p1)]) s1 EF := fun t k => pre30 t (by
         refine XS.iloadN X0.here hx rfl (B d21_78) rfl ?_
         exact XS.bipush X0.here hx rfl (B d21_79) k)
        by_cases hc81 : p1 = (42 : Int32)
        · have pre32 : Go p e bl s1 (mkF m 132 #[iv p1] []) s1 EF := fun t k => pre31 t (XS.icmpYes X0.here hx rfl (pc0 := 81) (pc' := 132) rfl (B d21_81) rfl (teq hc81).1 (by decide) (by decide) k)
          have pre33 : Go p e bl s1 (mkF m 137 #[iv p1] [(.int (1 : Int32))]) s1 EF := fun t k => pre32 t (by
           refine XS.iconst X0.here hx rfl (B d21_132) ?_
           exact XS.goto X0.here hx rfl (pc0 := 133) (pc' := 137) rfl (B d21_133) (by decide) (by decide) k)
          have hnr : Value.int (nar .boolean (1 : Int32)) = (.int (1 : Int32)) := by rfl
          exact fin1 X0 (v := some (.int (1 : Int32))) hrt hlk (wl rfl) (wl rfl) (by rw [e0]; exact ⟨by rw [← hR]; simp [expF, hc3, hc17, hc31, hc45, hc51, hc57, hc63, hc69, hc75, hc81], N0, rfl⟩) (fun fs hr => hEF ▸ pre33 _ (retN X0 hx (t := .boolean) Bd.returns (by simp) (B d21_137) (hnr ▸ hr)))
        have pre34 : Go p e bl s1 (mkF m 84 #[iv p1] []) s1 EF := fun t k => pre31 t (XS.icmpNo X0.here hx rfl (B d21_81) rfl (feq hc81).1 k)
        have pre35 : Go p e bl s1 (mkF m 87 #[iv p1] [(.int (43 : Int32)), (.int p1)]) s1 EF := fun t k => pre34 t (by
         refine XS.iloadN X0.here hx rfl (B d21_84) rfl ?_
         exact XS.bipush X0.here hx rfl (B d21_85) k)
        by_cases hc87 : p1 = (43 : Int32)
        · have pre36 : Go p e bl s1 (mkF m 132 #[iv p1] []) s1 EF := fun t k => pre35 t (XS.icmpYes X0.here hx rfl (pc0 := 87) (pc' := 132) rfl (B d21_87) rfl (teq hc87).1 (by decide) (by decide) k)
          have pre37 : Go p e bl s1 (mkF m 137 #[iv p1] [(.int (1 : Int32))]) s1 EF := fun t k => pre36 t (by
           refine XS.iconst X0.here hx rfl (B d21_132) ?_
           exact XS.goto X0.here hx rfl (pc0 := 133) (pc' := 137) rfl (B d21_133) (by decide) (by decide) k)
          have hnr : Value.int (nar .boolean (1 : Int32)) = (.int (1 : Int32)) := by rfl
          exact fin1 X0 (v := some (.int (1 : Int32))) hrt hlk (wl rfl) (wl rfl) (by rw [e0]; exact ⟨by rw [← hR]; simp [expF, hc3, hc17, hc31, hc45, hc51, hc57, hc63, hc69, hc75, hc81, hc87], N0, rfl⟩) (fun fs hr => hEF ▸ pre37 _ (retN X0 hx (t := .boolean) Bd.returns (by simp) (B d21_137) (hnr ▸ hr)))
        have pre38 : Go p e bl s1 (mkF m 90 #[iv p1] []) s1 EF := fun t k => pre35 t (XS.icmpNo X0.here hx rfl (B d21_87) rfl (feq hc87).1 k)
        have pre39 : Go p e bl s1 (mkF m 93 #[iv p1] [(.int (45 : Int32)), (.int p1)]) s1 EF := fun t k => pre38 t (by
         refine XS.iloadN X0.here hx rfl (B d21_90) rfl ?_
         exact XS.bipush X0.here hx rfl (B d21_91) k)
        by_cases hc93 : p1 = (45 : Int32)
        · have pre40 : Go p e bl s1 (mkF m 132 #[iv p1] []) s1 EF := fun t k => pre39 t (XS.icmpYes X0.here hx rfl (pc0 := 93) (pc' := 132) rfl (B d21_93) rfl (teq hc93).1 (by decide) (by decide) k)
          have pre41 : Go p e bl s1 (mkF m 137 #[iv p1] [(.int (1 : Int32))]) s1 EF := fun t k => pre40 t (by
           refine XS.iconst X0.here hx rfl (B d21_132) ?_
           exact XS.goto X0.here hx rfl (pc0 := 133) (pc' := 137) rfl (B d21_133) (by decide) (by decide) k)
          have hnr : Value.int (nar .boolean (1 : Int32)) = (.int (1 : Int32)) := by rfl
          exact fin1 X0 (v := some (.int (1 : Int32))) hrt hlk (wl rfl) (wl rfl) (by rw [e0]; exact ⟨by rw [← hR]; simp [expF, hc3, hc17, hc31, hc45, hc51, hc57, hc63, hc69, hc75, hc81, hc87, hc93], N0, rfl⟩) (fun fs hr => hEF ▸ pre41 _ (retN X0 hx (t := .boolean) Bd.returns (by simp) (B d21_137) (hnr ▸ hr)))
        have pre42 : Go p e bl s1 (mkF m 96 #[iv p1] []) s1 EF := fun t k => pre39 t (XS.icmpNo X0.here hx rfl (B d21_93) rfl (feq hc93).1 k)
        have pre43 : Go p e bl s1 (mkF m 99 #[iv p1] [(.int (46 : Int32)), (.int p1)]) s1 EF := fun t k => pre42 t (by
         refine XS.iloadN X0.here hx rfl (B d21_96) rfl ?_
         exact XS.bipush X0.here hx rfl (B d21_97) k)
        by_cases hc99 : p1 = (46 : Int32)
        · have pre44 : Go p e bl s1 (mkF m 132 #[iv p1] []) s1 EF := fun t k => pre43 t (XS.icmpYes X0.here hx rfl (pc0 := 99) (pc' := 132) rfl (B d21_99) rfl (teq hc99).1 (by decide) (by decide) k)
          have pre45 : Go p e bl s1 (mkF m 137 #[iv p1] [(.int (1 : Int32))]) s1 EF := fun t k => pre44 t (by
           refine XS.iconst X0.here hx rfl (B d21_132) ?_
           exact XS.goto X0.here hx rfl (pc0 := 133) (pc' := 137) rfl (B d21_133) (by decide) (by decide) k)
          have hnr : Value.int (nar .boolean (1 : Int32)) = (.int (1 : Int32)) := by rfl
          exact fin1 X0 (v := some (.int (1 : Int32))) hrt hlk (wl rfl) (wl rfl) (by rw [e0]; exact ⟨by rw [← hR]; simp [expF, hc3, hc17, hc31, hc45, hc51, hc57, hc63, hc69, hc75, hc81, hc87, hc93, hc99], N0, rfl⟩) (fun fs hr => hEF ▸ pre45 _ (retN X0 hx (t := .boolean) Bd.returns (by simp) (B d21_137) (hnr ▸ hr)))
        have pre46 : Go p e bl s1 (mkF m 102 #[iv p1] []) s1 EF := fun t k => pre43 t (XS.icmpNo X0.here hx rfl (B d21_99) rfl (feq hc99).1 k)
        have pre47 : Go p e bl s1 (mkF m 105 #[iv p1] [(.int (94 : Int32)), (.int p1)]) s1 EF := fun t k => pre46 t (by
         refine XS.iloadN X0.here hx rfl (B d21_102) rfl ?_
         exact XS.bipush X0.here hx rfl (B d21_103) k)
        by_cases hc105 : p1 = (94 : Int32)
        · exfalso
          simp only [Int32.lt_iff_toInt_lt, ← Int32.toInt_inj, own_l33, own_l35, own_l36, own_l37, own_l38, own_l39, own_l42, own_l43, own_l45, own_l46, own_l48, own_l65, own_l94, own_l97] at hc3 hc17 hc31 hc45 hc51 hc57 hc63 hc69 hc75 hc81 hc87 hc93 hc99 hc105
          omega
        have pre48 : Go p e bl s1 (mkF m 108 #[iv p1] []) s1 EF := fun t k => pre47 t (XS.icmpNo X0.here hx rfl (B d21_105) rfl (feq hc105).1 k)
        have pre49 : Go p e bl s1 (mkF m 111 #[iv p1] [(.int (95 : Int32)), (.int p1)]) s1 EF := fun t k => pre48 t (by
         refine XS.iloadN X0.here hx rfl (B d21_108) rfl ?_
         exact XS.bipush X0.here hx rfl (B d21_109) k)
        by_cases hc111 : p1 = (95 : Int32)
        · exfalso
          simp only [Int32.lt_iff_toInt_lt, ← Int32.toInt_inj, own_l33, own_l35, own_l36, own_l37, own_l38, own_l39, own_l42, own_l43, own_l45, own_l46, own_l48, own_l65, own_l94, own_l95, own_l97] at hc3 hc17 hc31 hc45 hc51 hc57 hc63 hc69 hc75 hc81 hc87 hc93 hc99 hc105 hc111
          omega
        have pre50 : Go p e bl s1 (mkF m 114 #[iv p1] []) s1 EF := fun t k => pre49 t (XS.icmpNo X0.here hx rfl (B d21_111) rfl (feq hc111).1 k)
        have pre51 : Go p e bl s1 (mkF m 117 #[iv p1] [(.int (96 : Int32)), (.int p1)]) s1 EF := fun t k => pre50 t (by
         refine XS.iloadN X0.here hx rfl (B d21_114) rfl ?_
         exact XS.bipush X0.here hx rfl (B d21_115) k)
        by_cases hc117 : p1 = (96 : Int32)
        · exfalso
          simp only [Int32.lt_iff_toInt_lt, ← Int32.toInt_inj, own_l33, own_l35, own_l36, own_l37, own_l38, own_l39, own_l42, own_l43, own_l45, own_l46, own_l48, own_l65, own_l94, own_l95, own_l96, own_l97] at hc3 hc17 hc31 hc45 hc51 hc57 hc63 hc69 hc75 hc81 hc87 hc93 hc99 hc105 hc111 hc117
          omega
        have pre52 : Go p e bl s1 (mkF m 120 #[iv p1] []) s1 EF := fun t k => pre51 t (XS.icmpNo X0.here hx rfl (B d21_117) rfl (feq hc117).1 k)
        have pre53 : Go p e bl s1 (mkF m 123 #[iv p1] [(.int (124 : Int32)), (.int p1)]) s1 EF := fun t k => pre52 t (by
         refine XS.iloadN X0.here hx rfl (B d21_120) rfl ?_
         exact XS.bipush X0.here hx rfl (B d21_121) k)
        by_cases hc123 : p1 = (124 : Int32)
        · exfalso
          simp only [Int32.lt_iff_toInt_lt, ← Int32.toInt_inj, own_l33, own_l35, own_l36, own_l37, own_l38, own_l39, own_l42, own_l43, own_l45, own_l46, own_l48, own_l65, own_l94, own_l95, own_l96, own_l97, own_l124] at hc3 hc17 hc31 hc45 hc51 hc57 hc63 hc69 hc75 hc81 hc87 hc93 hc99 hc105 hc111 hc117 hc123
          omega
        have pre54 : Go p e bl s1 (mkF m 126 #[iv p1] []) s1 EF := fun t k => pre53 t (XS.icmpNo X0.here hx rfl (B d21_123) rfl (feq hc123).1 k)
        have pre55 : Go p e bl s1 (mkF m 129 #[iv p1] [(.int (126 : Int32)), (.int p1)]) s1 EF := fun t k => pre54 t (by
         refine XS.iloadN X0.here hx rfl (B d21_126) rfl ?_
         exact XS.bipush X0.here hx rfl (B d21_127) k)
        by_cases hc129 : p1 = (126 : Int32)
        · exfalso
          simp only [Int32.lt_iff_toInt_lt, ← Int32.toInt_inj, own_l33, own_l35, own_l36, own_l37, own_l38, own_l39, own_l42, own_l43, own_l45, own_l46, own_l48, own_l65, own_l94, own_l95, own_l96, own_l97, own_l124, own_l126] at hc3 hc17 hc31 hc45 hc51 hc57 hc63 hc69 hc75 hc81 hc87 hc93 hc99 hc105 hc111 hc117 hc123 hc129
          omega
        have pre56 : Go p e bl s1 (mkF m 136 #[iv p1] []) s1 EF := fun t k => pre55 t (XS.icmpYes X0.here hx rfl (pc0 := 129) (pc' := 136) rfl (B d21_129) rfl (feq hc129).2 (by decide) (by decide) k)
        have pre57 : Go p e bl s1 (mkF m 137 #[iv p1] [(.int (0 : Int32))]) s1 EF := fun t k => pre56 t (by
         exact XS.iconst X0.here hx rfl (B d21_136) k)
        have hnr : Value.int (nar .boolean (0 : Int32)) = (.int (0 : Int32)) := by rfl
        exact fin1 X0 (v := some (.int (0 : Int32))) hrt hlk (wl rfl) (wl rfl) (by rw [e0]; exact ⟨by rw [← hR]; simp [expF, hc3, hc17, hc31, hc45, hc51, hc57, hc63, hc69, hc75, hc81, hc87, hc93, hc99, hc105, hc111, hc117, hc123, hc129], N0, rfl⟩) (fun fs hr => hEF ▸ pre57 _ (retN X0 hx (t := .boolean) Bd.returns (by simp) (B d21_137) (hnr ▸ hr)))
      exfalso
      simp only [Int32.lt_iff_toInt_lt, ← Int32.toInt_inj, own_l48, own_l65, own_l97] at hc3 hc17 hc31
      omega
    exfalso
    simp only [Int32.lt_iff_toInt_lt, ← Int32.toInt_inj, own_l48, own_l97] at hc3 hc17
    omega
  have pre58 : Go p e bl s1 (mkF m 6 #[iv p1] []) s1 EF := fun t k => pre1 t (XS.icmpNo X0.here hx rfl (B d21_3) rfl (flt hc3).1 k)
  have pre59 : Go p e bl s1 (mkF m 9 #[iv p1] [(.int (57 : Int32)), (.int p1)]) s1 EF := fun t k => pre58 t (by
   refine XS.iloadN X0.here hx rfl (B d21_6) rfl ?_
   exact XS.bipush X0.here hx rfl (B d21_7) k)
  by_cases hc9 : (57 : Int32) < p1
  · have pre60 : Go p e bl s1 (mkF m 14 #[iv p1] []) s1 EF := fun t k => pre59 t (XS.icmpYes X0.here hx rfl (pc0 := 9) (pc' := 14) rfl (B d21_9) rfl (tlt hc9).2.2.1 (by decide) (by decide) k)
    have pre61 : Go p e bl s1 (mkF m 17 #[iv p1] [(.int (97 : Int32)), (.int p1)]) s1 EF := fun t k => pre60 t (by
     refine XS.iloadN X0.here hx rfl (B d21_14) rfl ?_
     exact XS.bipush X0.here hx rfl (B d21_15) k)
    by_cases hc17 : p1 < (97 : Int32)
    · have pre62 : Go p e bl s1 (mkF m 28 #[iv p1] []) s1 EF := fun t k => pre61 t (XS.icmpYes X0.here hx rfl (pc0 := 17) (pc' := 28) rfl (B d21_17) rfl (tlt hc17).1 (by decide) (by decide) k)
      have pre63 : Go p e bl s1 (mkF m 31 #[iv p1] [(.int (65 : Int32)), (.int p1)]) s1 EF := fun t k => pre62 t (by
       refine XS.iloadN X0.here hx rfl (B d21_28) rfl ?_
       exact XS.bipush X0.here hx rfl (B d21_29) k)
      by_cases hc31 : p1 < (65 : Int32)
      · have pre64 : Go p e bl s1 (mkF m 42 #[iv p1] []) s1 EF := fun t k => pre63 t (XS.icmpYes X0.here hx rfl (pc0 := 31) (pc' := 42) rfl (B d21_31) rfl (tlt hc31).1 (by decide) (by decide) k)
        have pre65 : Go p e bl s1 (mkF m 45 #[iv p1] [(.int (33 : Int32)), (.int p1)]) s1 EF := fun t k => pre64 t (by
         refine XS.iloadN X0.here hx rfl (B d21_42) rfl ?_
         exact XS.bipush X0.here hx rfl (B d21_43) k)
        by_cases hc45 : p1 = (33 : Int32)
        · exfalso
          simp only [Int32.lt_iff_toInt_lt, ← Int32.toInt_inj, own_l33, own_l48, own_l57, own_l65, own_l97] at hc3 hc9 hc17 hc31 hc45
          omega
        have pre66 : Go p e bl s1 (mkF m 48 #[iv p1] []) s1 EF := fun t k => pre65 t (XS.icmpNo X0.here hx rfl (B d21_45) rfl (feq hc45).1 k)
        have pre67 : Go p e bl s1 (mkF m 51 #[iv p1] [(.int (35 : Int32)), (.int p1)]) s1 EF := fun t k => pre66 t (by
         refine XS.iloadN X0.here hx rfl (B d21_48) rfl ?_
         exact XS.bipush X0.here hx rfl (B d21_49) k)
        by_cases hc51 : p1 = (35 : Int32)
        · exfalso
          simp only [Int32.lt_iff_toInt_lt, ← Int32.toInt_inj, own_l33, own_l35, own_l48, own_l57, own_l65, own_l97] at hc3 hc9 hc17 hc31 hc45 hc51
          omega
        have pre68 : Go p e bl s1 (mkF m 54 #[iv p1] []) s1 EF := fun t k => pre67 t (XS.icmpNo X0.here hx rfl (B d21_51) rfl (feq hc51).1 k)
        have pre69 : Go p e bl s1 (mkF m 57 #[iv p1] [(.int (36 : Int32)), (.int p1)]) s1 EF := fun t k => pre68 t (by
         refine XS.iloadN X0.here hx rfl (B d21_54) rfl ?_
         exact XS.bipush X0.here hx rfl (B d21_55) k)
        by_cases hc57 : p1 = (36 : Int32)
        · exfalso
          simp only [Int32.lt_iff_toInt_lt, ← Int32.toInt_inj, own_l33, own_l35, own_l36, own_l48, own_l57, own_l65, own_l97] at hc3 hc9 hc17 hc31 hc45 hc51 hc57
          omega
        have pre70 : Go p e bl s1 (mkF m 60 #[iv p1] []) s1 EF := fun t k => pre69 t (XS.icmpNo X0.here hx rfl (B d21_57) rfl (feq hc57).1 k)
        have pre71 : Go p e bl s1 (mkF m 63 #[iv p1] [(.int (37 : Int32)), (.int p1)]) s1 EF := fun t k => pre70 t (by
         refine XS.iloadN X0.here hx rfl (B d21_60) rfl ?_
         exact XS.bipush X0.here hx rfl (B d21_61) k)
        by_cases hc63 : p1 = (37 : Int32)
        · exfalso
          simp only [Int32.lt_iff_toInt_lt, ← Int32.toInt_inj, own_l33, own_l35, own_l36, own_l37, own_l48, own_l57, own_l65, own_l97] at hc3 hc9 hc17 hc31 hc45 hc51 hc57 hc63
          omega
        have pre72 : Go p e bl s1 (mkF m 66 #[iv p1] []) s1 EF := fun t k => pre71 t (XS.icmpNo X0.here hx rfl (B d21_63) rfl (feq hc63).1 k)
        have pre73 : Go p e bl s1 (mkF m 69 #[iv p1] [(.int (38 : Int32)), (.int p1)]) s1 EF := fun t k => pre72 t (by
         refine XS.iloadN X0.here hx rfl (B d21_66) rfl ?_
         exact XS.bipush X0.here hx rfl (B d21_67) k)
        by_cases hc69 : p1 = (38 : Int32)
        · exfalso
          simp only [Int32.lt_iff_toInt_lt, ← Int32.toInt_inj, own_l33, own_l35, own_l36, own_l37, own_l38, own_l48, own_l57, own_l65, own_l97] at hc3 hc9 hc17 hc31 hc45 hc51 hc57 hc63 hc69
          omega
        have pre74 : Go p e bl s1 (mkF m 72 #[iv p1] []) s1 EF := fun t k => pre73 t (XS.icmpNo X0.here hx rfl (B d21_69) rfl (feq hc69).1 k)
        have pre75 : Go p e bl s1 (mkF m 75 #[iv p1] [(.int (39 : Int32)), (.int p1)]) s1 EF := fun t k => pre74 t (by
         refine XS.iloadN X0.here hx rfl (B d21_72) rfl ?_
         exact XS.bipush X0.here hx rfl (B d21_73) k)
        by_cases hc75 : p1 = (39 : Int32)
        · exfalso
          simp only [Int32.lt_iff_toInt_lt, ← Int32.toInt_inj, own_l33, own_l35, own_l36, own_l37, own_l38, own_l39, own_l48, own_l57, own_l65, own_l97] at hc3 hc9 hc17 hc31 hc45 hc51 hc57 hc63 hc69 hc75
          omega
        have pre76 : Go p e bl s1 (mkF m 78 #[iv p1] []) s1 EF := fun t k => pre75 t (XS.icmpNo X0.here hx rfl (B d21_75) rfl (feq hc75).1 k)
        have pre77 : Go p e bl s1 (mkF m 81 #[iv p1] [(.int (42 : Int32)), (.int p1)]) s1 EF := fun t k => pre76 t (by
         refine XS.iloadN X0.here hx rfl (B d21_78) rfl ?_
         exact XS.bipush X0.here hx rfl (B d21_79) k)
        by_cases hc81 : p1 = (42 : Int32)
        · exfalso
          simp only [Int32.lt_iff_toInt_lt, ← Int32.toInt_inj, own_l33, own_l35, own_l36, own_l37, own_l38, own_l39, own_l42, own_l48, own_l57, own_l65, own_l97] at hc3 hc9 hc17 hc31 hc45 hc51 hc57 hc63 hc69 hc75 hc81
          omega
        have pre78 : Go p e bl s1 (mkF m 84 #[iv p1] []) s1 EF := fun t k => pre77 t (XS.icmpNo X0.here hx rfl (B d21_81) rfl (feq hc81).1 k)
        have pre79 : Go p e bl s1 (mkF m 87 #[iv p1] [(.int (43 : Int32)), (.int p1)]) s1 EF := fun t k => pre78 t (by
         refine XS.iloadN X0.here hx rfl (B d21_84) rfl ?_
         exact XS.bipush X0.here hx rfl (B d21_85) k)
        by_cases hc87 : p1 = (43 : Int32)
        · exfalso
          simp only [Int32.lt_iff_toInt_lt, ← Int32.toInt_inj, own_l33, own_l35, own_l36, own_l37, own_l38, own_l39, own_l42, own_l43, own_l48, own_l57, own_l65, own_l97] at hc3 hc9 hc17 hc31 hc45 hc51 hc57 hc63 hc69 hc75 hc81 hc87
          omega
        have pre80 : Go p e bl s1 (mkF m 90 #[iv p1] []) s1 EF := fun t k => pre79 t (XS.icmpNo X0.here hx rfl (B d21_87) rfl (feq hc87).1 k)
        have pre81 : Go p e bl s1 (mkF m 93 #[iv p1] [(.int (45 : Int32)), (.int p1)]) s1 EF := fun t k => pre80 t (by
         refine XS.iloadN X0.here hx rfl (B d21_90) rfl ?_
         exact XS.bipush X0.here hx rfl (B d21_91) k)
        by_cases hc93 : p1 = (45 : Int32)
        · exfalso
          simp only [Int32.lt_iff_toInt_lt, ← Int32.toInt_inj, own_l33, own_l35, own_l36, own_l37, own_l38, own_l39, own_l42, own_l43, own_l45, own_l48, own_l57, own_l65, own_l97] at hc3 hc9 hc17 hc31 hc45 hc51 hc57 hc63 hc69 hc75 hc81 hc87 hc93
          omega
        have pre82 : Go p e bl s1 (mkF m 96 #[iv p1] []) s1 EF := fun t k => pre81 t (XS.icmpNo X0.here hx rfl (B d21_93) rfl (feq hc93).1 k)
        have pre83 : Go p e bl s1 (mkF m 99 #[iv p1] [(.int (46 : Int32)), (.int p1)]) s1 EF := fun t k => pre82 t (by
         refine XS.iloadN X0.here hx rfl (B d21_96) rfl ?_
         exact XS.bipush X0.here hx rfl (B d21_97) k)
        by_cases hc99 : p1 = (46 : Int32)
        · exfalso
          simp only [Int32.lt_iff_toInt_lt, ← Int32.toInt_inj, own_l33, own_l35, own_l36, own_l37, own_l38, own_l39, own_l42, own_l43, own_l45, own_l46, own_l48, own_l57, own_l65, own_l97] at hc3 hc9 hc17 hc31 hc45 hc51 hc57 hc63 hc69 hc75 hc81 hc87 hc93 hc99
          omega
        have pre84 : Go p e bl s1 (mkF m 102 #[iv p1] []) s1 EF := fun t k => pre83 t (XS.icmpNo X0.here hx rfl (B d21_99) rfl (feq hc99).1 k)
        have pre85 : Go p e bl s1 (mkF m 105 #[iv p1] [(.int (94 : Int32)), (.int p1)]) s1 EF := fun t k => pre84 t (by
         refine XS.iloadN X0.here hx rfl (B d21_102) rfl ?_
         exact XS.bipush X0.here hx rfl (B d21_103) k)
        by_cases hc105 : p1 = (94 : Int32)
        · exfalso
          simp only [Int32.lt_iff_toInt_lt, ← Int32.toInt_inj, own_l33, own_l35, own_l36, own_l37, own_l38, own_l39, own_l42, own_l43, own_l45, own_l46, own_l48, own_l57, own_l65, own_l94, own_l97] at hc3 hc9 hc17 hc31 hc45 hc51 hc57 hc63 hc69 hc75 hc81 hc87 hc93 hc99 hc105
          omega
        have pre86 : Go p e bl s1 (mkF m 108 #[iv p1] []) s1 EF := fun t k => pre85 t (XS.icmpNo X0.here hx rfl (B d21_105) rfl (feq hc105).1 k)
        have pre87 : Go p e bl s1 (mkF m 111 #[iv p1] [(.int (95 : Int32)), (.int p1)]) s1 EF := fun t k => pre86 t (by
         refine XS.iloadN X0.here hx rfl (B d21_108) rfl ?_
         exact XS.bipush X0.here hx rfl (B d21_109) k)
        by_cases hc111 : p1 = (95 : Int32)
        · exfalso
          simp only [Int32.lt_iff_toInt_lt, ← Int32.toInt_inj, own_l33, own_l35, own_l36, own_l37, own_l38, own_l39, own_l42, own_l43, own_l45, own_l46, own_l48, own_l57, own_l65, own_l94, own_l95, own_l97] at hc3 hc9 hc17 hc31 hc45 hc51 hc57 hc63 hc69 hc75 hc81 hc87 hc93 hc99 hc105 hc111
          omega
        have pre88 : Go p e bl s1 (mkF m 114 #[iv p1] []) s1 EF := fun t k => pre87 t (XS.icmpNo X0.here hx rfl (B d21_111) rfl (feq hc111).1 k)
        have pre89 : Go p e bl s1 (mkF m 117 #[iv p1] [(.int (96 : Int32)), (.int p1)]) s1 EF := fun t k => pre88 t (by
         refine XS.iloadN X0.here hx rfl (B d21_114) rfl ?_
         exact XS.bipush X0.here hx rfl (B d21_115) k)
        by_cases hc117 : p1 = (96 : Int32)
        · exfalso
          simp only [Int32.lt_iff_toInt_lt, ← Int32.toInt_inj, own_l33, own_l35, own_l36, own_l37, own_l38, own_l39, own_l42, own_l43, own_l45, own_l46, own_l48, own_l57, own_l65, own_l94, own_l95, own_l96, own_l97] at hc3 hc9 hc17 hc31 hc45 hc51 hc57 hc63 hc69 hc75 hc81 hc87 hc93 hc99 hc105 hc111 hc117
          omega
        have pre90 : Go p e bl s1 (mkF m 120 #[iv p1] []) s1 EF := fun t k => pre89 t (XS.icmpNo X0.here hx rfl (B d21_117) rfl (feq hc117).1 k)
        have pre91 : Go p e bl s1 (mkF m 123 #[iv p1] [(.int (124 : Int32)), (.int p1)]) s1 EF := fun t k => pre90 t (by
         refine XS.iloadN X0.here hx rfl (B d21_120) rfl ?_
         exact XS.bipush X0.here hx rfl (B d21_121) k)
        by_cases hc123 : p1 = (124 : Int32)
        · exfalso
          simp only [Int32.lt_iff_toInt_lt, ← Int32.toInt_inj, own_l33, own_l35, own_l36, own_l37, own_l38, own_l39, own_l42, own_l43, own_l45, own_l46, own_l48, own_l57, own_l65, own_l94, own_l95, own_l96, own_l97, own_l124] at hc3 hc9 hc17 hc31 hc45 hc51 hc57 hc63 hc69 hc75 hc81 hc87 hc93 hc99 hc105 hc111 hc117 hc123
          omega
        have pre92 : Go p e bl s1 (mkF m 126 #[iv p1] []) s1 EF := fun t k => pre91 t (XS.icmpNo X0.here hx rfl (B d21_123) rfl (feq hc123).1 k)
        have pre93 : Go p e bl s1 (mkF m 129 #[iv p1] [(.int (126 : Int32)), (.int p1)]) s1 EF := fun t k => pre92 t (by
         refine XS.iloadN X0.here hx rfl (B d21_126) rfl ?_
         exact XS.bipush X0.here hx rfl (B d21_127) k)
        by_cases hc129 : p1 = (126 : Int32)
        · exfalso
          simp only [Int32.lt_iff_toInt_lt, ← Int32.toInt_inj, own_l33, own_l35, own_l36, own_l37, own_l38, own_l39, own_l42, own_l43, own_l45, own_l46, own_l48, own_l57, own_l65, own_l94, own_l95, own_l96, own_l97, own_l124, own_l126] at hc3 hc9 hc17 hc31 hc45 hc51 hc57 hc63 hc69 hc75 hc81 hc87 hc93 hc99 hc105 hc111 hc117 hc123 hc129
          omega
        have pre94 : Go p e bl s1 (mkF m 136 #[iv p1] []) s1 EF := fun t k => pre93 t (XS.icmpYes X0.here hx rfl (pc0 := 129) (pc' := 136) rfl (B d21_129) rfl (feq hc129).2 (by decide) (by decide) k)
        have pre95 : Go p e bl s1 (mkF m 137 #[iv p1] [(.int (0 : Int32))]) s1 EF := fun t k => pre94 t (by
         exact XS.iconst X0.here hx rfl (B d21_136) k)
        have hnr : Value.int (nar .boolean (0 : Int32)) = (.int (0 : Int32)) := by rfl
        exact fin1 X0 (v := some (.int (0 : Int32))) hrt hlk (wl rfl) (wl rfl) (by rw [e0]; exact ⟨by rw [← hR]; simp [expF, hc3, hc9, hc17, hc31, hc45, hc51, hc57, hc63, hc69, hc75, hc81, hc87, hc93, hc99, hc105, hc111, hc117, hc123, hc129], N0, rfl⟩) (fun fs hr => hEF ▸ pre95 _ (retN X0 hx (t := .boolean) Bd.returns (by simp) (B d21_137) (hnr ▸ hr)))
      have pre96 : Go p e bl s1 (mkF m 34 #[iv p1] []) s1 EF := fun t k => pre63 t (XS.icmpNo X0.here hx rfl (B d21_31) rfl (flt hc31).1 k)
      have pre97 : Go p e bl s1 (mkF m 37 #[iv p1] [(.int (90 : Int32)), (.int p1)]) s1 EF := fun t k => pre96 t (by
       refine XS.iloadN X0.here hx rfl (B d21_34) rfl ?_
       exact XS.bipush X0.here hx rfl (B d21_35) k)
      by_cases hc37 : (90 : Int32) < p1
      · have pre98 : Go p e bl s1 (mkF m 42 #[iv p1] []) s1 EF := fun t k => pre97 t (XS.icmpYes X0.here hx rfl (pc0 := 37) (pc' := 42) rfl (B d21_37) rfl (tlt hc37).2.2.1 (by decide) (by decide) k)
        have pre99 : Go p e bl s1 (mkF m 45 #[iv p1] [(.int (33 : Int32)), (.int p1)]) s1 EF := fun t k => pre98 t (by
         refine XS.iloadN X0.here hx rfl (B d21_42) rfl ?_
         exact XS.bipush X0.here hx rfl (B d21_43) k)
        by_cases hc45 : p1 = (33 : Int32)
        · exfalso
          simp only [Int32.lt_iff_toInt_lt, ← Int32.toInt_inj, own_l33, own_l48, own_l57, own_l65, own_l90, own_l97] at hc3 hc9 hc17 hc31 hc37 hc45
          omega
        have pre100 : Go p e bl s1 (mkF m 48 #[iv p1] []) s1 EF := fun t k => pre99 t (XS.icmpNo X0.here hx rfl (B d21_45) rfl (feq hc45).1 k)
        have pre101 : Go p e bl s1 (mkF m 51 #[iv p1] [(.int (35 : Int32)), (.int p1)]) s1 EF := fun t k => pre100 t (by
         refine XS.iloadN X0.here hx rfl (B d21_48) rfl ?_
         exact XS.bipush X0.here hx rfl (B d21_49) k)
        by_cases hc51 : p1 = (35 : Int32)
        · exfalso
          simp only [Int32.lt_iff_toInt_lt, ← Int32.toInt_inj, own_l33, own_l35, own_l48, own_l57, own_l65, own_l90, own_l97] at hc3 hc9 hc17 hc31 hc37 hc45 hc51
          omega
        have pre102 : Go p e bl s1 (mkF m 54 #[iv p1] []) s1 EF := fun t k => pre101 t (XS.icmpNo X0.here hx rfl (B d21_51) rfl (feq hc51).1 k)
        have pre103 : Go p e bl s1 (mkF m 57 #[iv p1] [(.int (36 : Int32)), (.int p1)]) s1 EF := fun t k => pre102 t (by
         refine XS.iloadN X0.here hx rfl (B d21_54) rfl ?_
         exact XS.bipush X0.here hx rfl (B d21_55) k)
        by_cases hc57 : p1 = (36 : Int32)
        · exfalso
          simp only [Int32.lt_iff_toInt_lt, ← Int32.toInt_inj, own_l33, own_l35, own_l36, own_l48, own_l57, own_l65, own_l90, own_l97] at hc3 hc9 hc17 hc31 hc37 hc45 hc51 hc57
          omega
        have pre104 : Go p e bl s1 (mkF m 60 #[iv p1] []) s1 EF := fun t k => pre103 t (XS.icmpNo X0.here hx rfl (B d21_57) rfl (feq hc57).1 k)
        have pre105 : Go p e bl s1 (mkF m 63 #[iv p1] [(.int (37 : Int32)), (.int p1)]) s1 EF := fun t k => pre104 t (by
         refine XS.iloadN X0.here hx rfl (B d21_60) rfl ?_
         exact XS.bipush X0.here hx rfl (B d21_61) k)
        by_cases hc63 : p1 = (37 : Int32)
        · exfalso
          simp only [Int32.lt_iff_toInt_lt, ← Int32.toInt_inj, own_l33, own_l35, own_l36, own_l37, own_l48, own_l57, own_l65, own_l90, own_l97] at hc3 hc9 hc17 hc31 hc37 hc45 hc51 hc57 hc63
          omega
        have pre106 : Go p e bl s1 (mkF m 66 #[iv p1] []) s1 EF := fun t k => pre105 t (XS.icmpNo X0.here hx rfl (B d21_63) rfl (feq hc63).1 k)
        have pre107 : Go p e bl s1 (mkF m 69 #[iv p1] [(.int (38 : Int32)), (.int p1)]) s1 EF := fun t k => pre106 t (by
         refine XS.iloadN X0.here hx rfl (B d21_66) rfl ?_
         exact XS.bipush X0.here hx rfl (B d21_67) k)
        by_cases hc69 : p1 = (38 : Int32)
        · exfalso
          simp only [Int32.lt_iff_toInt_lt, ← Int32.toInt_inj, own_l33, own_l35, own_l36, own_l37, own_l38, own_l48, own_l57, own_l65, own_l90, own_l97] at hc3 hc9 hc17 hc31 hc37 hc45 hc51 hc57 hc63 hc69
          omega
        have pre108 : Go p e bl s1 (mkF m 72 #[iv p1] []) s1 EF := fun t k => pre107 t (XS.icmpNo X0.here hx rfl (B d21_69) rfl (feq hc69).1 k)
        have pre109 : Go p e bl s1 (mkF m 75 #[iv p1] [(.int (39 : Int32)), (.int p1)]) s1 EF := fun t k => pre108 t (by
         refine XS.iloadN X0.here hx rfl (B d21_72) rfl ?_
         exact XS.bipush X0.here hx rfl (B d21_73) k)
        by_cases hc75 : p1 = (39 : Int32)
        · exfalso
          simp only [Int32.lt_iff_toInt_lt, ← Int32.toInt_inj, own_l33, own_l35, own_l36, own_l37, own_l38, own_l39, own_l48, own_l57, own_l65, own_l90, own_l97] at hc3 hc9 hc17 hc31 hc37 hc45 hc51 hc57 hc63 hc69 hc75
          omega
        have pre110 : Go p e bl s1 (mkF m 78 #[iv p1] []) s1 EF := fun t k => pre109 t (XS.icmpNo X0.here hx rfl (B d21_75) rfl (feq hc75).1 k)
        have pre111 : Go p e bl s1 (mkF m 81 #[iv p1] [(.int (42 : Int32)), (.int p1)]) s1 EF := fun t k => pre110 t (by
         refine XS.iloadN X0.here hx rfl (B d21_78) rfl ?_
         exact XS.bipush X0.here hx rfl (B d21_79) k)
        by_cases hc81 : p1 = (42 : Int32)
        · exfalso
          simp only [Int32.lt_iff_toInt_lt, ← Int32.toInt_inj, own_l33, own_l35, own_l36, own_l37, own_l38, own_l39, own_l42, own_l48, own_l57, own_l65, own_l90, own_l97] at hc3 hc9 hc17 hc31 hc37 hc45 hc51 hc57 hc63 hc69 hc75 hc81
          omega
        have pre112 : Go p e bl s1 (mkF m 84 #[iv p1] []) s1 EF := fun t k => pre111 t (XS.icmpNo X0.here hx rfl (B d21_81) rfl (feq hc81).1 k)
        have pre113 : Go p e bl s1 (mkF m 87 #[iv p1] [(.int (43 : Int32)), (.int p1)]) s1 EF := fun t k => pre112 t (by
         refine XS.iloadN X0.here hx rfl (B d21_84) rfl ?_
         exact XS.bipush X0.here hx rfl (B d21_85) k)
        by_cases hc87 : p1 = (43 : Int32)
        · exfalso
          simp only [Int32.lt_iff_toInt_lt, ← Int32.toInt_inj, own_l33, own_l35, own_l36, own_l37, own_l38, own_l39, own_l42, own_l43, own_l48, own_l57, own_l65, own_l90, own_l97] at hc3 hc9 hc17 hc31 hc37 hc45 hc51 hc57 hc63 hc69 hc75 hc81 hc87
          omega
        have pre114 : Go p e bl s1 (mkF m 90 #[iv p1] []) s1 EF := fun t k => pre113 t (XS.icmpNo X0.here hx rfl (B d21_87) rfl (feq hc87).1 k)
        have pre115 : Go p e bl s1 (mkF m 93 #[iv p1] [(.int (45 : Int32)), (.int p1)]) s1 EF := fun t k => pre114 t (by
         refine XS.iloadN X0.here hx rfl (B d21_90) rfl ?_
         exact XS.bipush X0.here hx rfl (B d21_91) k)
        by_cases hc93 : p1 = (45 : Int32)
        · exfalso
          simp only [Int32.lt_iff_toInt_lt, ← Int32.toInt_inj, own_l33, own_l35, own_l36, own_l37, own_l38, own_l39, own_l42, own_l43, own_l45, own_l48, own_l57, own_l65, own_l90, own_l97] at hc3 hc9 hc17 hc31 hc37 hc45 hc51 hc57 hc63 hc69 hc75 hc81 hc87 hc93
          omega
        have pre116 : Go p e bl s1 (mkF m 96 #[iv p1] []) s1 EF := fun t k => pre115 t (XS.icmpNo X0.here hx rfl (B d21_93) rfl (feq hc93).1 k)
        have pre117 : Go p e bl s1 (mkF m 99 #[iv p1] [(.int (46 : Int32)), (.int p1)]) s1 EF := fun t k => pre116 t (by
         refine XS.iloadN X0.here hx rfl (B d21_96) rfl ?_
         exact XS.bipush X0.here hx rfl (B d21_97) k)
        by_cases hc99 : p1 = (46 : Int32)
        · exfalso
          simp only [Int32.lt_iff_toInt_lt, ← Int32.toInt_inj, own_l33, own_l35, own_l36, own_l37, own_l38, own_l39, own_l42, own_l43, own_l45, own_l46, own_l48, own_l57, own_l65, own_l90, own_l97] at hc3 hc9 hc17 hc31 hc37 hc45 hc51 hc57 hc63 hc69 hc75 hc81 hc87 hc93 hc99
          omega
        have pre118 : Go p e bl s1 (mkF m 102 #[iv p1] []) s1 EF := fun t k => pre117 t (XS.icmpNo X0.here hx rfl (B d21_99) rfl (feq hc99).1 k)
        have pre119 : Go p e bl s1 (mkF m 105 #[iv p1] [(.int (94 : Int32)), (.int p1)]) s1 EF := fun t k => pre118 t (by
         refine XS.iloadN X0.here hx rfl (B d21_102) rfl ?_
         exact XS.bipush X0.here hx rfl (B d21_103) k)
        by_cases hc105 : p1 = (94 : Int32)
        · have pre120 : Go p e bl s1 (mkF m 132 #[iv p1] []) s1 EF := fun t k => pre119 t (XS.icmpYes X0.here hx rfl (pc0 := 105) (pc' := 132) rfl (B d21_105) rfl (teq hc105).1 (by decide) (by decide) k)
          have pre121 : Go p e bl s1 (mkF m 137 #[iv p1] [(.int (1 : Int32))]) s1 EF := fun t k => pre120 t (by
           refine XS.iconst X0.here hx rfl (B d21_132) ?_
           exact XS.goto X0.here hx rfl (pc0 := 133) (pc' := 137) rfl (B d21_133) (by decide) (by decide) k)
          have hnr : Value.int (nar .boolean (1 : Int32)) = (.int (1 : Int32)) := by rfl
          exact fin1 X0 (v := some (.int (1 : Int32))) hrt hlk (wl rfl) (wl rfl) (by rw [e0]; exact ⟨by rw [← hR]; simp [expF, hc3, hc9, hc17, hc31, hc37, hc45, hc51, hc57, hc63, hc69, hc75, hc81, hc87, hc93, hc99, hc105], N0, rfl⟩) (fun fs hr => hEF ▸ pre121 _ (retN X0 hx (t := .boolean) Bd.returns (by simp) (B d21_137) (hnr ▸ hr)))
        have pre122 : Go p e bl s1 (mkF m 108 #[iv p1] []) s1 EF := fun t k => pre119 t (XS.icmpNo X0.here hx rfl (B d21_105) rfl (feq hc105).1 k)
        have pre123 : Go p e bl s1 (mkF m 111 #[iv p1] [(.int (95 : Int32)), (.int p1)]) s1 EF := fun t k => pre122 t (by
         refine XS.iloadN X0.here hx rfl (B d21_108) rfl ?_
         exact XS.bipush X0.here hx rfl (B d21_109) k)
        by_cases hc111 : p1 = (95 : Int32)
        · have pre124 : Go p e bl s1 (mkF m 132 #[iv p1] []) s1 EF := fun t k => pre123 t (XS.icmpYes X0.here hx rfl (pc0 := 111) (pc' := 132) rfl (B d21_111) rfl (teq hc111).1 (by decide) (by decide) k)
          have pre125 : Go p e bl s1 (mkF m 137 #[iv p1] [(.int (1 : Int32))]) s1 EF := fun t k => pre124 t (by
           refine XS.iconst X0.here hx rfl (B d21_132) ?_
           exact XS.goto X0.here hx rfl (pc0 := 133) (pc' := 137) rfl (B d21_133) (by decide) (by decide) k)
          have hnr : Value.int (nar .boolean (1 : Int32)) = (.int (1 : Int32)) := by rfl
          exact fin1 X0 (v := some (.int (1 : Int32))) hrt hlk (wl rfl) (wl rfl) (by rw [e0]; exact ⟨by rw [← hR]; simp [expF, hc3, hc9, hc17, hc31, hc37, hc45, hc51, hc57, hc63, hc69, hc75, hc81, hc87, hc93, hc99, hc105, hc111], N0, rfl⟩) (fun fs hr => hEF ▸ pre125 _ (retN X0 hx (t := .boolean) Bd.returns (by simp) (B d21_137) (hnr ▸ hr)))
        have pre126 : Go p e bl s1 (mkF m 114 #[iv p1] []) s1 EF := fun t k => pre123 t (XS.icmpNo X0.here hx rfl (B d21_111) rfl (feq hc111).1 k)
        have pre127 : Go p e bl s1 (mkF m 117 #[iv p1] [(.int (96 : Int32)), (.int p1)]) s1 EF := fun t k => pre126 t (by
         refine XS.iloadN X0.here hx rfl (B d21_114) rfl ?_
         exact XS.bipush X0.here hx rfl (B d21_115) k)
        by_cases hc117 : p1 = (96 : Int32)
        · have pre128 : Go p e bl s1 (mkF m 132 #[iv p1] []) s1 EF := fun t k => pre127 t (XS.icmpYes X0.here hx rfl (pc0 := 117) (pc' := 132) rfl (B d21_117) rfl (teq hc117).1 (by decide) (by decide) k)
          have pre129 : Go p e bl s1 (mkF m 137 #[iv p1] [(.int (1 : Int32))]) s1 EF := fun t k => pre128 t (by
           refine XS.iconst X0.here hx rfl (B d21_132) ?_
           exact XS.goto X0.here hx rfl (pc0 := 133) (pc' := 137) rfl (B d21_133) (by decide) (by decide) k)
          have hnr : Value.int (nar .boolean (1 : Int32)) = (.int (1 : Int32)) := by rfl
          exact fin1 X0 (v := some (.int (1 : Int32))) hrt hlk (wl rfl) (wl rfl) (by rw [e0]; exact ⟨by rw [← hR]; simp [expF, hc3, hc9, hc17, hc31, hc37, hc45, hc51, hc57, hc63, hc69, hc75, hc81, hc87, hc93, hc99, hc105, hc111, hc117], N0, rfl⟩) (fun fs hr => hEF ▸ pre129 _ (retN X0 hx (t := .boolean) Bd.returns (by simp) (B d21_137) (hnr ▸ hr)))
        have pre130 : Go p e bl s1 (mkF m 120 #[iv p1] []) s1 EF := fun t k => pre127 t (XS.icmpNo X0.here hx rfl (B d21_117) rfl (feq hc117).1 k)
        have pre131 : Go p e bl s1 (mkF m 123 #[iv p1] [(.int (124 : Int32)), (.int p1)]) s1 EF := fun t k => pre130 t (by
         refine XS.iloadN X0.here hx rfl (B d21_120) rfl ?_
         exact XS.bipush X0.here hx rfl (B d21_121) k)
        by_cases hc123 : p1 = (124 : Int32)
        · exfalso
          simp only [Int32.lt_iff_toInt_lt, ← Int32.toInt_inj, own_l33, own_l35, own_l36, own_l37, own_l38, own_l39, own_l42, own_l43, own_l45, own_l46, own_l48, own_l57, own_l65, own_l90, own_l94, own_l95, own_l96, own_l97, own_l124] at hc3 hc9 hc17 hc31 hc37 hc45 hc51 hc57 hc63 hc69 hc75 hc81 hc87 hc93 hc99 hc105 hc111 hc117 hc123
          omega
        have pre132 : Go p e bl s1 (mkF m 126 #[iv p1] []) s1 EF := fun t k => pre131 t (XS.icmpNo X0.here hx rfl (B d21_123) rfl (feq hc123).1 k)
        have pre133 : Go p e bl s1 (mkF m 129 #[iv p1] [(.int (126 : Int32)), (.int p1)]) s1 EF := fun t k => pre132 t (by
         refine XS.iloadN X0.here hx rfl (B d21_126) rfl ?_
         exact XS.bipush X0.here hx rfl (B d21_127) k)
        by_cases hc129 : p1 = (126 : Int32)
        · exfalso
          simp only [Int32.lt_iff_toInt_lt, ← Int32.toInt_inj, own_l33, own_l35, own_l36, own_l37, own_l38, own_l39, own_l42, own_l43, own_l45, own_l46, own_l48, own_l57, own_l65, own_l90, own_l94, own_l95, own_l96, own_l97, own_l124, own_l126] at hc3 hc9 hc17 hc31 hc37 hc45 hc51 hc57 hc63 hc69 hc75 hc81 hc87 hc93 hc99 hc105 hc111 hc117 hc123 hc129
          omega
        have pre134 : Go p e bl s1 (mkF m 136 #[iv p1] []) s1 EF := fun t k => pre133 t (XS.icmpYes X0.here hx rfl (pc0 := 129) (pc' := 136) rfl (B d21_129) rfl (feq hc129).2 (by decide) (by decide) k)
        have pre135 : Go p e bl s1 (mkF m 137 #[iv p1] [(.int (0 : Int32))]) s1 EF := fun t k => pre134 t (by
         exact XS.iconst X0.here hx rfl (B d21_136) k)
        have hnr : Value.int (nar .boolean (0 : Int32)) = (.int (0 : Int32)) := by rfl
        exact fin1 X0 (v := some (.int (0 : Int32))) hrt hlk (wl rfl) (wl rfl) (by rw [e0]; exact ⟨by rw [← hR]; simp [expF, hc3, hc9, hc17, hc31, hc37, hc45, hc51, hc57, hc63, hc69, hc75, hc81, hc87, hc93, hc99, hc105, hc111, hc117, hc123, hc129], N0, rfl⟩) (fun fs hr => hEF ▸ pre135 _ (retN X0 hx (t := .boolean) Bd.returns (by simp) (B d21_137) (hnr ▸ hr)))
      have pre136 : Go p e bl s1 (mkF m 40 #[iv p1] []) s1 EF := fun t k => pre97 t (XS.icmpNo X0.here hx rfl (B d21_37) rfl (flt hc37).2.2.1 k)
      have pre137 : Go p e bl s1 (mkF m 41 #[iv p1] [(.int (1 : Int32))]) s1 EF := fun t k => pre136 t (by
       exact XS.iconst X0.here hx rfl (B d21_40) k)
      have hnr : Value.int (nar .boolean (1 : Int32)) = (.int (1 : Int32)) := by rfl
      exact fin1 X0 (v := some (.int (1 : Int32))) hrt hlk (wl rfl) (wl rfl) (by rw [e0]; exact ⟨by rw [← hR]; simp [expF, hc3, hc9, hc17, hc31, hc37], N0, rfl⟩) (fun fs hr => hEF ▸ pre137 _ (retN X0 hx (t := .boolean) Bd.returns (by simp) (B d21_41) (hnr ▸ hr)))
    have pre138 : Go p e bl s1 (mkF m 20 #[iv p1] []) s1 EF := fun t k => pre61 t (XS.icmpNo X0.here hx rfl (B d21_17) rfl (flt hc17).1 k)
    have pre139 : Go p e bl s1 (mkF m 23 #[iv p1] [(.int (122 : Int32)), (.int p1)]) s1 EF := fun t k => pre138 t (by
     refine XS.iloadN X0.here hx rfl (B d21_20) rfl ?_
     exact XS.bipush X0.here hx rfl (B d21_21) k)
    by_cases hc23 : (122 : Int32) < p1
    · have pre140 : Go p e bl s1 (mkF m 28 #[iv p1] []) s1 EF := fun t k => pre139 t (XS.icmpYes X0.here hx rfl (pc0 := 23) (pc' := 28) rfl (B d21_23) rfl (tlt hc23).2.2.1 (by decide) (by decide) k)
      have pre141 : Go p e bl s1 (mkF m 31 #[iv p1] [(.int (65 : Int32)), (.int p1)]) s1 EF := fun t k => pre140 t (by
       refine XS.iloadN X0.here hx rfl (B d21_28) rfl ?_
       exact XS.bipush X0.here hx rfl (B d21_29) k)
      by_cases hc31 : p1 < (65 : Int32)
      · exfalso
        simp only [Int32.lt_iff_toInt_lt, ← Int32.toInt_inj, own_l48, own_l57, own_l65, own_l97, own_l122] at hc3 hc9 hc17 hc23 hc31
        omega
      have pre142 : Go p e bl s1 (mkF m 34 #[iv p1] []) s1 EF := fun t k => pre141 t (XS.icmpNo X0.here hx rfl (B d21_31) rfl (flt hc31).1 k)
      have pre143 : Go p e bl s1 (mkF m 37 #[iv p1] [(.int (90 : Int32)), (.int p1)]) s1 EF := fun t k => pre142 t (by
       refine XS.iloadN X0.here hx rfl (B d21_34) rfl ?_
       exact XS.bipush X0.here hx rfl (B d21_35) k)
      by_cases hc37 : (90 : Int32) < p1
      · have pre144 : Go p e bl s1 (mkF m 42 #[iv p1] []) s1 EF := fun t k => pre143 t (XS.icmpYes X0.here hx rfl (pc0 := 37) (pc' := 42) rfl (B d21_37) rfl (tlt hc37).2.2.1 (by decide) (by decide) k)
        have pre145 : Go p e bl s1 (mkF m 45 #[iv p1] [(.int (33 : Int32)), (.int p1)]) s1 EF := fun t k => pre144 t (by
         refine XS.iloadN X0.here hx rfl (B d21_42) rfl ?_
         exact XS.bipush X0.here hx rfl (B d21_43) k)
        by_cases hc45 : p1 = (33 : Int32)
        · exfalso
          simp only [Int32.lt_iff_toInt_lt, ← Int32.toInt_inj, own_l33, own_l48, own_l57, own_l65, own_l90, own_l97, own_l122] at hc3 hc9 hc17 hc23 hc31 hc37 hc45
          omega
        have pre146 : Go p e bl s1 (mkF m 48 #[iv p1] []) s1 EF := fun t k => pre145 t (XS.icmpNo X0.here hx rfl (B d21_45) rfl (feq hc45).1 k)
        have pre147 : Go p e bl s1 (mkF m 51 #[iv p1] [(.int (35 : Int32)), (.int p1)]) s1 EF := fun t k => pre146 t (by
         refine XS.iloadN X0.here hx rfl (B d21_48) rfl ?_
         exact XS.bipush X0.here hx rfl (B d21_49) k)
        by_cases hc51 : p1 = (35 : Int32)
        · exfalso
          simp only [Int32.lt_iff_toInt_lt, ← Int32.toInt_inj, own_l33, own_l35, own_l48, own_l57, own_l65, own_l90, own_l97, own_l122] at hc3 hc9 hc17 hc23 hc31 hc37 hc45 hc51
          omega
        have pre148 : Go p e bl s1 (mkF m 54 #[iv p1] []) s1 EF := fun t k => pre147 t (XS.icmpNo X0.here hx rfl (B d21_51) rfl (feq hc51).1 k)
        have pre149 : Go p e bl s1 (mkF m 57 #[iv p1] [(.int (36 : Int32)), (.int p1)]) s1 EF := fun t k => pre148 t (by
         refine XS.iloadN X0.here hx rfl (B d21_54) rfl ?_
         exact XS.bipush X0.here hx rfl (B d21_55) k)
        by_cases hc57 : p1 = (36 : Int32)
        · exfalso
          simp only [Int32.lt_iff_toInt_lt, ← Int32.toInt_inj, own_l33, own_l35, own_l36, own_l48, own_l57, own_l65, own_l90, own_l97, own_l122] at hc3 hc9 hc17 hc23 hc31 hc37 hc45 hc51 hc57
          omega
        have pre150 : Go p e bl s1 (mkF m 60 #[iv p1] []) s1 EF := fun t k => pre149 t (XS.icmpNo X0.here hx rfl (B d21_57) rfl (feq hc57).1 k)
        have pre151 : Go p e bl s1 (mkF m 63 #[iv p1] [(.int (37 : Int32)), (.int p1)]) s1 EF := fun t k => pre150 t (by
         refine XS.iloadN X0.here hx rfl (B d21_60) rfl ?_
         exact XS.bipush X0.here hx rfl (B d21_61) k)
        by_cases hc63 : p1 = (37 : Int32)
        · exfalso
          simp only [Int32.lt_iff_toInt_lt, ← Int32.toInt_inj, own_l33, own_l35, own_l36, own_l37, own_l48, own_l57, own_l65, own_l90, own_l97, own_l122] at hc3 hc9 hc17 hc23 hc31 hc37 hc45 hc51 hc57 hc63
          omega
        have pre152 : Go p e bl s1 (mkF m 66 #[iv p1] []) s1 EF := fun t k => pre151 t (XS.icmpNo X0.here hx rfl (B d21_63) rfl (feq hc63).1 k)
        have pre153 : Go p e bl s1 (mkF m 69 #[iv p1] [(.int (38 : Int32)), (.int p1)]) s1 EF := fun t k => pre152 t (by
         refine XS.iloadN X0.here hx rfl (B d21_66) rfl ?_
         exact XS.bipush X0.here hx rfl (B d21_67) k)
        by_cases hc69 : p1 = (38 : Int32)
        · exfalso
          simp only [Int32.lt_iff_toInt_lt, ← Int32.toInt_inj, own_l33, own_l35, own_l36, own_l37, own_l38, own_l48, own_l57, own_l65, own_l90, own_l97, own_l122] at hc3 hc9 hc17 hc23 hc31 hc37 hc45 hc51 hc57 hc63 hc69
          omega
        have pre154 : Go p e bl s1 (mkF m 72 #[iv p1] []) s1 EF := fun t k => pre153 t (XS.icmpNo X0.here hx rfl (B d21_69) rfl (feq hc69).1 k)
        have pre155 : Go p e bl s1 (mkF m 75 #[iv p1] [(.int (39 : Int32)), (.int p1)]) s1 EF := fun t k => pre154 t (by
         refine XS.iloadN X0.here hx rfl (B d21_72) rfl ?_
         exact XS.bipush X0.here hx rfl (B d21_73) k)
        by_cases hc75 : p1 = (39 : Int32)
        · exfalso
          simp only [Int32.lt_iff_toInt_lt, ← Int32.toInt_inj, own_l33, own_l35, own_l36, own_l37, own_l38, own_l39, own_l48, own_l57, own_l65, own_l90, own_l97, own_l122] at hc3 hc9 hc17 hc23 hc31 hc37 hc45 hc51 hc57 hc63 hc69 hc75
          omega
        have pre156 : Go p e bl s1 (mkF m 78 #[iv p1] []) s1 EF := fun t k => pre155 t (XS.icmpNo X0.here hx rfl (B d21_75) rfl (feq hc75).1 k)
        have pre157 : Go p e bl s1 (mkF m 81 #[iv p1] [(.int (42 : Int32)), (.int p1)]) s1 EF := fun t k => pre156 t (by
         refine XS.iloadN X0.here hx rfl (B d21_78) rfl ?_
         exact XS.bipush X0.here hx rfl (B d21_79) k)
        by_cases hc81 : p1 = (42 : Int32)
        · exfalso
          simp only [Int32.lt_iff_toInt_lt, ← Int32.toInt_inj, own_l33, own_l35, own_l36, own_l37, own_l38, own_l39, own_l42, own_l48, own_l57, own_l65, own_l90, own_l97, own_l122] at hc3 hc9 hc17 hc23 hc31 hc37 hc45 hc51 hc57 hc63 hc69 hc75 hc81
          omega
        have pre158 : Go p e bl s1 (mkF m 84 #[iv p1] []) s1 EF := fun t k => pre157 t (XS.icmpNo X0.here hx rfl (B d21_81) rfl (feq hc81).1 k)
        have pre159 : Go p e bl s1 (mkF m 87 #[iv p1] [(.int (43 : Int32)), (.int p1)]) s1 EF := fun t k => pre158 t (by
         refine XS.iloadN X0.here hx rfl (B d21_84) rfl ?_
         exact XS.bipush X0.here hx rfl (B d21_85) k)
        by_cases hc87 : p1 = (43 : Int32)
        · exfalso
          simp only [Int32.lt_iff_toInt_lt, ← Int32.toInt_inj, own_l33, own_l35, own_l36, own_l37, own_l38, own_l39, own_l42, own_l43, own_l48, own_l57, own_l65, own_l90, own_l97, own_l122] at hc3 hc9 hc17 hc23 hc31 hc37 hc45 hc51 hc57 hc63 hc69 hc75 hc81 hc87
          omega
        have pre160 : Go p e bl s1 (mkF m 90 #[iv p1] []) s1 EF := fun t k => pre159 t (XS.icmpNo X0.here hx rfl (B d21_87) rfl (feq hc87).1 k)
        have pre161 : Go p e bl s1 (mkF m 93 #[iv p1] [(.int (45 : Int32)), (.int p1)]) s1 EF := fun t k => pre160 t (by
         refine XS.iloadN X0.here hx rfl (B d21_90) rfl ?_
         exact XS.bipush X0.here hx rfl (B d21_91) k)
        by_cases hc93 : p1 = (45 : Int32)
        · exfalso
          simp only [Int32.lt_iff_toInt_lt, ← Int32.toInt_inj, own_l33, own_l35, own_l36, own_l37, own_l38, own_l39, own_l42, own_l43, own_l45, own_l48, own_l57, own_l65, own_l90, own_l97, own_l122] at hc3 hc9 hc17 hc23 hc31 hc37 hc45 hc51 hc57 hc63 hc69 hc75 hc81 hc87 hc93
          omega
        have pre162 : Go p e bl s1 (mkF m 96 #[iv p1] []) s1 EF := fun t k => pre161 t (XS.icmpNo X0.here hx rfl (B d21_93) rfl (feq hc93).1 k)
        have pre163 : Go p e bl s1 (mkF m 99 #[iv p1] [(.int (46 : Int32)), (.int p1)]) s1 EF := fun t k => pre162 t (by
         refine XS.iloadN X0.here hx rfl (B d21_96) rfl ?_
         exact XS.bipush X0.here hx rfl (B d21_97) k)
        by_cases hc99 : p1 = (46 : Int32)
        · exfalso
          simp only [Int32.lt_iff_toInt_lt, ← Int32.toInt_inj, own_l33, own_l35, own_l36, own_l37, own_l38, own_l39, own_l42, own_l43, own_l45, own_l46, own_l48, own_l57, own_l65, own_l90, own_l97, own_l122] at hc3 hc9 hc17 hc23 hc31 hc37 hc45 hc51 hc57 hc63 hc69 hc75 hc81 hc87 hc93 hc99
          omega
        have pre164 : Go p e bl s1 (mkF m 102 #[iv p1] []) s1 EF := fun t k => pre163 t (XS.icmpNo X0.here hx rfl (B d21_99) rfl (feq hc99).1 k)
        have pre165 : Go p e bl s1 (mkF m 105 #[iv p1] [(.int (94 : Int32)), (.int p1)]) s1 EF := fun t k => pre164 t (by
         refine XS.iloadN X0.here hx rfl (B d21_102) rfl ?_
         exact XS.bipush X0.here hx rfl (B d21_103) k)
        by_cases hc105 : p1 = (94 : Int32)
        · exfalso
          simp only [Int32.lt_iff_toInt_lt, ← Int32.toInt_inj, own_l33, own_l35, own_l36, own_l37, own_l38, own_l39, own_l42, own_l43, own_l45, own_l46, own_l48, own_l57, own_l65, own_l90, own_l94, own_l97, own_l122] at hc3 hc9 hc17 hc23 hc31 hc37 hc45 hc51 hc57 hc63 hc69 hc75 hc81 hc87 hc93 hc99 hc105
          omega
        have pre166 : Go p e bl s1 (mkF m 108 #[iv p1] []) s1 EF := fun t k => pre165 t (XS.icmpNo X0.here hx rfl (B d21_105) rfl (feq hc105).1 k)
        have pre167 : Go p e bl s1 (mkF m 111 #[iv p1] [(.int (95 : Int32)), (.int p1)]) s1 EF := fun t k => pre166 t (by
         refine XS.iloadN X0.here hx rfl (B d21_108) rfl ?_
         exact XS.bipush X0.here hx rfl (B d21_109) k)
        by_cases hc111 : p1 = (95 : Int32)
        · exfalso
          simp only [Int32.lt_iff_toInt_lt, ← Int32.toInt_inj, own_l33, own_l35, own_l36, own_l37, own_l38, own_l39, own_l42, own_l43, own_l45, own_l46, own_l48, own_l57, own_l65, own_l90, own_l94, own_l95, own_l97, own_l122] at hc3 hc9 hc17 hc23 hc31 hc37 hc45 hc51 hc57 hc63 hc69 hc75 hc81 hc87 hc93 hc99 hc105 hc111
          omega
        have pre168 : Go p e bl s1 (mkF m 114 #[iv p1] []) s1 EF := fun t k => pre167 t (XS.icmpNo X0.here hx rfl (B d21_111) rfl (feq hc111).1 k)
        have pre169 : Go p e bl s1 (mkF m 117 #[iv p1] [(.int (96 : Int32)), (.int p1)]) s1 EF := fun t k => pre168 t (by
         refine XS.iloadN X0.here hx rfl (B d21_114) rfl ?_
         exact XS.bipush X0.here hx rfl (B d21_115) k)
        by_cases hc117 : p1 = (96 : Int32)
        · exfalso
          simp only [Int32.lt_iff_toInt_lt, ← Int32.toInt_inj, own_l33, own_l35, own_l36, own_l37, own_l38, own_l39, own_l42, own_l43, own_l45, own_l46, own_l48, own_l57, own_l65, own_l90, own_l94, own_l95, own_l96, own_l97, own_l122] at hc3 hc9 hc17 hc23 hc31 hc37 hc45 hc51 hc57 hc63 hc69 hc75 hc81 hc87 hc93 hc99 hc105 hc111 hc117
          omega
        have pre170 : Go p e bl s1 (mkF m 120 #[iv p1] []) s1 EF := fun t k => pre169 t (XS.icmpNo X0.here hx rfl (B d21_117) rfl (feq hc117).1 k)
        have pre171 : Go p e bl s1 (mkF m 123 #[iv p1] [(.int (124 : Int32)), (.int p1)]) s1 EF := fun t k => pre170 t (by
         refine XS.iloadN X0.here hx rfl (B d21_120) rfl ?_
         exact XS.bipush X0.here hx rfl (B d21_121) k)
        by_cases hc123 : p1 = (124 : Int32)
        · have pre172 : Go p e bl s1 (mkF m 132 #[iv p1] []) s1 EF := fun t k => pre171 t (XS.icmpYes X0.here hx rfl (pc0 := 123) (pc' := 132) rfl (B d21_123) rfl (teq hc123).1 (by decide) (by decide) k)
          have pre173 : Go p e bl s1 (mkF m 137 #[iv p1] [(.int (1 : Int32))]) s1 EF := fun t k => pre172 t (by
           refine XS.iconst X0.here hx rfl (B d21_132) ?_
           exact XS.goto X0.here hx rfl (pc0 := 133) (pc' := 137) rfl (B d21_133) (by decide) (by decide) k)
          have hnr : Value.int (nar .boolean (1 : Int32)) = (.int (1 : Int32)) := by rfl
          exact fin1 X0 (v := some (.int (1 : Int32))) hrt hlk (wl rfl) (wl rfl) (by rw [e0]; exact ⟨by rw [← hR]; simp [expF, hc3, hc9, hc17, hc23, hc31, hc37, hc45, hc51, hc57, hc63, hc69, hc75, hc81, hc87, hc93, hc99, hc105, hc111, hc117, hc123], N0, rfl⟩) (fun fs hr => hEF ▸ pre173 _ (retN X0 hx (t := .boolean) Bd.returns (by simp) (B d21_137) (hnr ▸ hr)))
        have pre174 : Go p e bl s1 (mkF m 126 #[iv p1] []) s1 EF := fun t k => pre171 t (XS.icmpNo X0.here hx rfl (B d21_123) rfl (feq hc123).1 k)
        have pre175 : Go p e bl s1 (mkF m 129 #[iv p1] [(.int (126 : Int32)), (.int p1)]) s1 EF := fun t k => pre174 t (by
         refine XS.iloadN X0.here hx rfl (B d21_126) rfl ?_
         exact XS.bipush X0.here hx rfl (B d21_127) k)
        by_cases hc129 : p1 = (126 : Int32)
        · have pre176 : Go p e bl s1 (mkF m 132 #[iv p1] []) s1 EF := fun t k => pre175 t (XS.icmpNo X0.here hx rfl (B d21_129) rfl (teq hc129).2 k)
          have pre177 : Go p e bl s1 (mkF m 137 #[iv p1] [(.int (1 : Int32))]) s1 EF := fun t k => pre176 t (by
           refine XS.iconst X0.here hx rfl (B d21_132) ?_
           exact XS.goto X0.here hx rfl (pc0 := 133) (pc' := 137) rfl (B d21_133) (by decide) (by decide) k)
          have hnr : Value.int (nar .boolean (1 : Int32)) = (.int (1 : Int32)) := by rfl
          exact fin1 X0 (v := some (.int (1 : Int32))) hrt hlk (wl rfl) (wl rfl) (by rw [e0]; exact ⟨by rw [← hR]; simp [expF, hc3, hc9, hc17, hc23, hc31, hc37, hc45, hc51, hc57, hc63, hc69, hc75, hc81, hc87, hc93, hc99, hc105, hc111, hc117, hc123, hc129], N0, rfl⟩) (fun fs hr => hEF ▸ pre177 _ (retN X0 hx (t := .boolean) Bd.returns (by simp) (B d21_137) (hnr ▸ hr)))
        have pre178 : Go p e bl s1 (mkF m 136 #[iv p1] []) s1 EF := fun t k => pre175 t (XS.icmpYes X0.here hx rfl (pc0 := 129) (pc' := 136) rfl (B d21_129) rfl (feq hc129).2 (by decide) (by decide) k)
        have pre179 : Go p e bl s1 (mkF m 137 #[iv p1] [(.int (0 : Int32))]) s1 EF := fun t k => pre178 t (by
         exact XS.iconst X0.here hx rfl (B d21_136) k)
        have hnr : Value.int (nar .boolean (0 : Int32)) = (.int (0 : Int32)) := by rfl
        exact fin1 X0 (v := some (.int (0 : Int32))) hrt hlk (wl rfl) (wl rfl) (by rw [e0]; exact ⟨by rw [← hR]; simp [expF, hc3, hc9, hc17, hc23, hc31, hc37, hc45, hc51, hc57, hc63, hc69, hc75, hc81, hc87, hc93, hc99, hc105, hc111, hc117, hc123, hc129], N0, rfl⟩) (fun fs hr => hEF ▸ pre179 _ (retN X0 hx (t := .boolean) Bd.returns (by simp) (B d21_137) (hnr ▸ hr)))
      exfalso
      simp only [Int32.lt_iff_toInt_lt, ← Int32.toInt_inj, own_l48, own_l57, own_l65, own_l90, own_l97, own_l122] at hc3 hc9 hc17 hc23 hc31 hc37
      omega
    have pre180 : Go p e bl s1 (mkF m 26 #[iv p1] []) s1 EF := fun t k => pre139 t (XS.icmpNo X0.here hx rfl (B d21_23) rfl (flt hc23).2.2.1 k)
    have pre181 : Go p e bl s1 (mkF m 27 #[iv p1] [(.int (1 : Int32))]) s1 EF := fun t k => pre180 t (by
     exact XS.iconst X0.here hx rfl (B d21_26) k)
    have hnr : Value.int (nar .boolean (1 : Int32)) = (.int (1 : Int32)) := by rfl
    exact fin1 X0 (v := some (.int (1 : Int32))) hrt hlk (wl rfl) (wl rfl) (by rw [e0]; exact ⟨by rw [← hR]; simp [expF, hc3, hc9, hc17, hc23], N0, rfl⟩) (fun fs hr => hEF ▸ pre181 _ (retN X0 hx (t := .boolean) Bd.returns (by simp) (B d21_27) (hnr ▸ hr)))
  have pre182 : Go p e bl s1 (mkF m 12 #[iv p1] []) s1 EF := fun t k => pre59 t (XS.icmpNo X0.here hx rfl (B d21_9) rfl (flt hc9).2.2.1 k)
  have pre183 : Go p e bl s1 (mkF m 13 #[iv p1] [(.int (1 : Int32))]) s1 EF := fun t k => pre182 t (by
   exact XS.iconst X0.here hx rfl (B d21_12) k)
  have hnr : Value.int (nar .boolean (1 : Int32)) = (.int (1 : Int32)) := by rfl
  exact fin1 X0 (v := some (.int (1 : Int32))) hrt hlk (wl rfl) (wl rfl) (by rw [e0]; exact ⟨by rw [← hR]; simp [expF, hc3, hc9], N0, rfl⟩) (fun fs hr => hEF ▸ pre183 _ (retN X0 hx (t := .boolean) Bd.returns (by simp) (B d21_13) (hnr ▸ hr)))
theorem own_eq (cl : Cell) (H : ∀ j : Int32, ¬ j < 0 → j < 128 → atv cl j = expF j) (c : Int32) : tokF cl c = expF c := by
  unfold tokF
  by_cases h1 : c < 0
  · rw [if_pos h1]; unfold expF
    simp only [Int32.lt_iff_toInt_lt, ← Int32.toInt_inj, own_l0, own_l33, own_l35, own_l36, own_l37, own_l38, own_l39, own_l42, own_l43, own_l45, own_l46, own_l48, own_l57, own_l65, own_l90, own_l94, own_l95, own_l96, own_l97, own_l122, own_l124, own_l126, own_l128] at h1 ⊢
    rw [if_neg (by omega), if_neg (by omega), if_neg (by omega), if_neg (by omega)]
    exact own_l0.symm
  · rw [if_neg h1]
    by_cases h2 : c < 128
    · rw [if_pos h2, H c h1 h2]; unfold expF; repeat' split
      all_goals simp_all
    · rw [if_neg h2]; unfold expF
      simp only [Int32.lt_iff_toInt_lt, ← Int32.toInt_inj, own_l0, own_l33, own_l35, own_l36, own_l37, own_l38, own_l39, own_l42, own_l43, own_l45, own_l46, own_l48, own_l57, own_l65, own_l90, own_l94, own_l95, own_l96, own_l97, own_l122, own_l124, own_l126, own_l128] at h2 ⊢
      rw [if_neg (by omega), if_neg (by omega), if_neg (by omega), if_neg (by omega)]
      exact own_l0.symm
abbrev rKB0 : Room := { frames := 3, cells := 6, slots := 12, locals := 43 }
theorem d22_0 : decode method_3_code 0 = .ok (.iload_n 0, 1) := by decide +kernel
theorem d22_1 : decode method_3_code 1 = .ok (.ifCond .ne 14, 3) := by decide +kernel
theorem d22_4 : decode method_3_code 4 = .ok (.new 7, 3) := by decide +kernel
theorem d22_7 : decode method_3_code 7 = .ok (.dup, 1) := by decide +kernel
theorem d22_8 : decode method_3_code 8 = .ok (.iconst 0, 1) := by decide +kernel
theorem d22_9 : decode method_3_code 9 = .ok (.newarray .char, 2) := by decide +kernel
theorem d22_11 : decode method_3_code 11 = .ok (.invokespecial 9, 3) := by decide +kernel
theorem d22_14 : decode method_3_code 14 = .ok (.areturn, 1) := by decide +kernel
theorem pd14 : parseMethodDescriptor "([C)V" = some ⟨[(.array .char)], none⟩ := by decide +kernel
theorem efB0 (m : MethodId) (c0 : Int32) (c1 : Int32) (c2 : Int32) (c3 : Int32) : entryFrame m #[(.int (0 : Int32)), (.int c0), (.int c1), (.int c2), (.int c3)] 5 = mkF m 0 #[iv (0 : Int32), iv c0, iv c1, iv c2, iv c3] [] := by first | (simp [entryFrame, mkF, argsToLocals, Value.category]; done) | rfl
def QB0 (Z : State) (c0 : Int32) (c1 : Int32) (c2 : Int32) (c3 : Int32) (cz : Int32) (fv : Value) (h0 : Heap) (n0 : Nat) (v : Option Value) (h : Heap) (L : List Loc) : Prop := ∃ b, v = some (.ref b) ∧ Fr n0 L ∧ Keep h0 h [] ∧ Str Z h b []
set_option maxRecDepth 65536 in
set_option maxHeartbeats 40000000 in
theorem rmB0 (l : Launch) (Z : State) (a0 : Array Value) (hw : HW a0 Z) (ws : List Jvm.Cond) (c0 : Int32) (c1 : Int32) (c2 : Int32) (c3 : Int32) (cz : Int32) (fv : Value) (h0 : Heap) (n0 : Nat) (Z0 : n0 ≤ h0.size) (O0 : Old Z n0 h0) (J0 : Jd Z cz fv) (rc0 : 0 ≤ c0.toInt ∧ c0.toInt < 65536) (rc1 : 0 ≤ c1.toInt ∧ c1.toInt < 65536) (rc2 : 0 ≤ c2.toInt ∧ c2.toInt < 65536) (rc3 : 0 ≤ c3.toInt ∧ c3.toInt < 65536) :
    MetFree l mN22 (head1 (Jvm.Cond.code mN22 method_3_code 5 (some (.object "java/lang/String")) :: ws) rKB0) (fun a U => a = #[(.int (0 : Int32)), (.int c0), (.int c1), (.int c2), (.int c3)] ∧ Z.Warmed39 U.vm ∧ U.heap = h0 ∧ CHv Z [("java/lang/String", 7)] U.vm h0) (fun _ _ _ _ _ => True) (fun _ U o U' => ∃ v L, o = .returned v ∧ QB0 Z c0 c1 c2 c3 cz fv h0 n0 v U'.heap L ∧ CHr Z [("java/lang/String", 7)] U.vm U.heap U'.vm U'.heap ∧ ReturnedEndW U o U' L rKB0.cells rKB0.slots) := by
  refine MetFree.of_bodySF (plainFor_of_name pn5) hisR ?_
  intro p e s m args bl meth c s1 Bd hml0 hP hK
  obtain ⟨rfl, hZ, hh, hC⟩ := hP
  have hx := Bd.exec
  have hby := Bd.bytes
  have B := @hb c _ hby
  have hM := fun {n : Nat} (h : n = 5) => h.trans hml0.symm
  have hown : s.vm.findClass "com/example/oxpecker/oxpecker/http/HttpInputTokenEndPinLaw" = some m.cls := findClass_of_methodNamed Bd.named
  have X0 : Stand p l e rKB0 (s.setVm s.vm) m #[(.int (0 : Int32)), (.int c0), (.int c1), (.int c2), (.int c3)] bl meth c s1 [] 0 0 := Stand.of_body Bd
  have e0 : s1.heap = h0 := by rw [← hh, Bd.state]; rfl
  have N0 := Fr.nil n0
  obtain ⟨EF, hEF⟩ : ∃ f, f = entryFrame m #[(.int (0 : Int32)), (.int c0), (.int c1), (.int c2), (.int c3)] 5 := ⟨_, rfl⟩
  have pre0 : Go p e bl s1 (mkF m 0 #[iv (0 : Int32), iv c0, iv c1, iv c2, iv c3] []) s1 EF := fun t k => by rw [hEF]; exact castTop (efB0 m c0 c1 c2 c3) k
  have hZ0 : Z.Warmed39 (s.setVm s.vm).vm := hZ
  have hown0 : (s.setVm s.vm).vm.findClass "com/example/oxpecker/oxpecker/http/HttpInputTokenEndPinLaw" = some m.cls := hown
  have hS0 : s.Since s.vm s.heap.size := (State.WarmedH.refl s).since _
  have hk0 : s.heap.size ≤ h0.size := by rw [← hh]; exact Nat.le_refl _
  have pre1 : Go p e bl s1 (mkF m 1 #[iv (0 : Int32), iv c0, iv c1, iv c2, iv c3] [(.int (0 : Int32))]) s1 EF := fun t k => pre0 t (by
   exact XS.iloadN X0.here hx rfl (B d22_0) rfl k)
  have pre2 : Go p e bl s1 (mkF m 4 #[iv (0 : Int32), iv c0, iv c1, iv c2, iv c3] []) s1 EF := fun t k => pre1 t (XS.ifNo X0.here hx rfl (B d22_1) rfl ((if0 _ _).trans (teq (by decide : (0 : Int32) = (0 : Int32))).2) k)
  obtain ⟨T3, h3, X3, e3, Et3, A3, D3, U3, st3⟩ := newO X0 hx hZ0 hown0 (hw _ (mW 6 rfl)) (hw _ (mW 7 rfl)) (hw _ (mW 8 rfl)) e0 (g := (mkF m 4 #[iv (0 : Int32), iv c0, iv c1, iv c2, iv c3] [])) rfl (B d22_4) (by decide) (by decide)
  obtain ⟨b3, g3⟩ : ∃ z, z = h0.size := ⟨_, rfl⟩
  rw [← g3] at A3 st3 D3
  have g_b3 : n0 ≤ b3 := Nat.le_trans Z0 (Nat.le_of_eq g3.symm)
  have sz_b3 : h0.size ≤ b3 := Nat.le_trans (Keep.refl h0 []).1 (Nat.le_of_eq g3.symm)
  have sfn_b3 : Safe Z [("java/lang/String", 7)] s.vm h0 b3 := Safe.new (Nat.le_of_eq g3.symm)
  have pre4 : Go p e bl T3 (mkF m 7 #[iv (0 : Int32), iv c0, iv c1, iv c2, iv c3] [(.ref b3)]) s1 EF := fun t k => pre2 t (st3 t k)
  have O5 : Old Z n0 h3 := O0.ext Et3
  have Z5 : n0 ≤ h3.size := Nat.le_trans Z0 Et3.1
  have hk5 := Nat.le_trans hk0 Et3.1
  have C5 := CHv.ext Et3 hC
  have R5 := (CHr.refl hC).trans (CHr.ext Et3 hC)
  have sf5_b3 := Safe.ext Et3 hC sfn_b3
  have K5 : Keep h0 h3 [] := (Keep.refl h0 []).ext Et3
  have F_value_b3 : Fld Z h3 b3 "java/lang/String" "value" "[B" .null := D3 (Or.inr (hw _ (mW 22 rfl))) (ty := (.array .byte)) (by decide)
  have F_coder_b3 : Fld Z h3 b3 "java/lang/String" "coder" "B" (.int (0 : Int32)) := D3 (Or.inr (hw _ (mW 23 rfl))) (ty := .byte) (by decide)
  have pre6 : Go p e bl T3 (mkF m 9 #[iv (0 : Int32), iv c0, iv c1, iv c2, iv c3] [(.int (0 : Int32)), (.ref b3), (.ref b3)]) s1 EF := fun t k => pre4 t (by
   refine XS.dup X3.here hx rfl (B d22_7) rfl rfl ?_
   exact XS.iconst X3.here hx rfl (B d22_8) k)
  obtain ⟨T7, h7, k7, X7, e7, Et7, A7, st7⟩ := newP X3 hx hZ0 (hw _ (mW 9 rfl)) e3 (g := (mkF m 9 #[iv (0 : Int32), iv c0, iv c1, iv c2, iv c3] [(.int (0 : Int32)), (.ref b3), (.ref b3)])) rfl (B d22_9) rfl (by decide) (cap := 0) (by decide) (by decide) (by decide) (by decide)
  obtain ⟨b7, g7⟩ : ∃ z, z = h3.size := ⟨_, rfl⟩
  rw [← g7] at A7 st7
  have g_b7 : n0 ≤ b7 := Nat.le_trans Z5 (Nat.le_of_eq g7.symm)
  have sz_b7 : h0.size ≤ b7 := Nat.le_trans K5.1 (Nat.le_of_eq g7.symm)
  have sfn_b7 : Safe Z [("java/lang/String", 7)] s.vm h3 b7 := Safe.new (Nat.le_of_eq g7.symm)
  have ne_b3_b7 : b3 ≠ b7 := Nat.ne_of_lt (Nat.lt_of_lt_of_le A3.lt (Nat.le_of_eq g7.symm))
  have pre8 : Go p e bl T7 (mkF m 11 #[iv (0 : Int32), iv c0, iv c1, iv c2, iv c3] [(.ref b7), (.ref b3), (.ref b3)]) s1 EF := fun t k => pre6 t (st7 t k)
  have O9 : Old Z n0 h7 := O5.ext Et7
  have Z9 : n0 ≤ h7.size := Nat.le_trans Z5 Et7.1
  have hk9 := Nat.le_trans hk5 Et7.1
  have C9 := CHv.ext Et7 C5
  have R9 := R5.trans (CHr.ext Et7 C5)
  have sf9_b3 := Safe.ext Et7 C5 sf5_b3
  have sf9_b7 := Safe.ext Et7 C5 sfn_b7
  have K9 : Keep h0 h7 [] := K5.ext Et7
  have V7 : Arv Z h7 b7 k7 .char (0 : Int32) [] (.int (0 : Int32)) := (Arv.new A7 (by decide)).pad (pad_rep [] (.int (0 : Int32)) 0)
  obtain ⟨_, _, ⟨T10, L10, k10, n10⟩, -, XQ10, hSQ10, hgQ10, ⟨Lc10, hQ10, l10, y10, z10, hCH10⟩, st10⟩ := X7.specialBackS hx (y := mN19) rfl hown0 (mvT hZ0 (hw _ (mW 10 rfl))) (mvT hZ0 (hw _ (mW 11 rfl))) (mvT hZ0 (hw _ (mW 12 rfl))) (by decide) (backOfSH (W := 1) (rmKj0 l Z a0 hw [] b3 b7 cz fv k7 h7 n0 Z9 O9 J0 (A3.ext Et7) g_b3 (F_value_b3.ext Et7) (F_coder_b3.ext Et7) V7) hZ0 (hw _ (mW 12 rfl)) (hw _ (mW 8 rfl)) (by decide) (by decide) (own_EW hw) C9) (g := (mkF m 11 #[iv (0 : Int32), iv c0, iv c1, iv c2, iv c3] [(.ref b7), (.ref b3), (.ref b3)])) rfl (hM rfl) (Steps.refl _) (a := b3) (argsL := [(.ref b7)]) (rest := [(.ref b3)]) (lenOf pd14 rfl) rfl (Nat.le_of_eq rfl) (B d22_11) (fun _ _ => ⟨rfl, e7, wl rfl, wl rfl⟩)
  dsimp only [Pt.U, Pt.locs, Pt.cells, Pt.slots] at XQ10 hSQ10 hgQ10 hCH10 l10 y10 z10 st10 hQ10
  subst l10 y10 z10
  obtain ⟨X10, hS10, hZ10, hown10⟩ := rebS hS0 (by rw [e7]; exact hk9) XQ10 hSQ10 hgQ10 hZ0 hown0
  obtain ⟨rfl, N10q, K10, SF10⟩ := hQ10
  have N10 := Fr.app N0 N10q
  have pre11 : Go p e bl T10 (mkF m 14 #[iv (0 : Int32), iv c0, iv c1, iv c2, iv c3] [(.ref b3)]) s1 EF := fun t k => pre8 t (st10.trans k)
  have hk10 := Nat.le_refl T10.heap.size
  have R10 := R9.trans hCH10
  have O12 : Old Z n0 T10.heap := O9.keep K10 (allS g_b3 all0)
  have Z12 : n0 ≤ T10.heap.size := Nat.le_trans Z9 K10.1
  have K12 : Keep h0 T10.heap [] := K9.trans K10 (allS (Or.inr sz_b3) all0)
  obtain ⟨fs, hr, hrun, hended, hend1, hend2, hend3, hsame⟩ := X10.leaveW hS10 hk10 (v := some (.ref b3)) (fun h => by rw [Bd.returns] at h; cases h)
  have hCH : CHr Z [("java/lang/String", 7)] s.vm s.heap T10.vm T10.heap := by rw [hh]; exact R10.trans (CHv.at X10 hZ10 (own_EW hw) hCH10.1)
  refine ⟨_, _, hEF ▸ pre11 _ (retOut X10 hx Bd.returns rfl (Or.inr (Or.inr (Or.inr (Or.inr ⟨rfl, rfl, rfl⟩)))) (B d22_14) hr), hrun, hended, _, _, rfl, ?_, hCH, hend1, hend2, hend3, hsame.mono (by decide) (by decide)⟩
  show QB0 Z c0 c1 c2 c3 cz fv h0 n0 _ T10.heap _
  exact ⟨_, rfl, N10, K12, SF10⟩
abbrev rKB1 : Room := { frames := 6, cells := 4, slots := 8, locals := 88 }
theorem d22_15 : decode method_3_code 15 = .ok (.iload_n 0, 1) := by decide +kernel
theorem d22_16 : decode method_3_code 16 = .ok (.iconst 1, 1) := by decide +kernel
theorem d22_17 : decode method_3_code 17 = .ok (.if_icmp .ne 18, 3) := by decide +kernel
theorem d22_20 : decode method_3_code 20 = .ok (.new 7, 3) := by decide +kernel
theorem d22_23 : decode method_3_code 23 = .ok (.dup, 1) := by decide +kernel
theorem d22_24 : decode method_3_code 24 = .ok (.iconst 1, 1) := by decide +kernel
theorem d22_25 : decode method_3_code 25 = .ok (.newarray .char, 2) := by decide +kernel
theorem d22_27 : decode method_3_code 27 = .ok (.dup, 1) := by decide +kernel
theorem d22_28 : decode method_3_code 28 = .ok (.iconst 0, 1) := by decide +kernel
theorem d22_29 : decode method_3_code 29 = .ok (.iload_n 1, 1) := by decide +kernel
theorem d22_30 : decode method_3_code 30 = .ok (.castore, 1) := by decide +kernel
theorem d22_31 : decode method_3_code 31 = .ok (.invokespecial 9, 3) := by decide +kernel
theorem d22_34 : decode method_3_code 34 = .ok (.areturn, 1) := by decide +kernel
theorem efB1 (m : MethodId) (c0 : Int32) (c1 : Int32) (c2 : Int32) (c3 : Int32) : entryFrame m #[(.int (1 : Int32)), (.int c0), (.int c1), (.int c2), (.int c3)] 5 = mkF m 0 #[iv (1 : Int32), iv c0, iv c1, iv c2, iv c3] [] := by first | (simp [entryFrame, mkF, argsToLocals, Value.category]; done) | rfl
def QB1 (Z : State) (c0 : Int32) (c1 : Int32) (c2 : Int32) (c3 : Int32) (cz : Int32) (fv : Value) (h0 : Heap) (n0 : Nat) (v : Option Value) (h : Heap) (L : List Loc) : Prop := ∃ b, v = some (.ref b) ∧ Fr n0 L ∧ Keep h0 h [] ∧ Str Z h b [c0]
set_option maxRecDepth 65536 in
set_option maxHeartbeats 40000000 in
theorem rmB1 (l : Launch) (Z : State) (a0 : Array Value) (hw : HW a0 Z) (ws : List Jvm.Cond) (c0 : Int32) (c1 : Int32) (c2 : Int32) (c3 : Int32) (cz : Int32) (fv : Value) (h0 : Heap) (n0 : Nat) (Z0 : n0 ≤ h0.size) (O0 : Old Z n0 h0) (J0 : Jd Z cz fv) (rc0 : 0 ≤ c0.toInt ∧ c0.toInt < 65536) (rc1 : 0 ≤ c1.toInt ∧ c1.toInt < 65536) (rc2 : 0 ≤ c2.toInt ∧ c2.toInt < 65536) (rc3 : 0 ≤ c3.toInt ∧ c3.toInt < 65536) :
    MF l Z mN22 method_3_code 5 (some (.object "java/lang/String")) ws rKB1 #[(.int (1 : Int32)), (.int c0), (.int c1), (.int c2), (.int c3)] h0 (QB1 Z c0 c1 c2 c3 cz fv h0 n0) := by
  refine MetFree.of_bodySF (plainFor_of_name pn5) hisR ?_
  intro p e s m args bl meth c s1 Bd hml0 hP hK
  obtain ⟨rfl, hZ, hh⟩ := hP
  have hx := Bd.exec
  have hby := Bd.bytes
  have B := @hb c _ hby
  have hM := fun {n : Nat} (h : n = 5) => h.trans hml0.symm
  have hown : s.vm.findClass "com/example/oxpecker/oxpecker/http/HttpInputTokenEndPinLaw" = some m.cls := findClass_of_methodNamed Bd.named
  have hlk : meth.locks = false := BodyLoose.notSynchronized Bd
  have hrt : ∀ {v : Option Value}, meth.sig.returnType = none → v = none := fun h => by rw [Bd.returns] at h; cases h
  have X0 : Stand p l e rKB1 s m #[(.int (1 : Int32)), (.int c0), (.int c1), (.int c2), (.int c3)] bl meth c s1 [] 0 0 := Stand.of_body Bd
  have e0 : s1.heap = h0 := by rw [← hh, Bd.state]; rfl
  have N0 := Fr.nil n0
  obtain ⟨EF, hEF⟩ : ∃ f, f = entryFrame m #[(.int (1 : Int32)), (.int c0), (.int c1), (.int c2), (.int c3)] 5 := ⟨_, rfl⟩
  have pre0 : Go p e bl s1 (mkF m 0 #[iv (1 : Int32), iv c0, iv c1, iv c2, iv c3] []) s1 EF := fun t k => by rw [hEF]; exact castTop (efB1 m c0 c1 c2 c3) k
  have pre1 : Go p e bl s1 (mkF m 1 #[iv (1 : Int32), iv c0, iv c1, iv c2, iv c3] [(.int (1 : Int32))]) s1 EF := fun t k => pre0 t (by
   exact XS.iloadN X0.here hx rfl (B d22_0) rfl k)
  have pre2 : Go p e bl s1 (mkF m 15 #[iv (1 : Int32), iv c0, iv c1, iv c2, iv c3] []) s1 EF := fun t k => pre1 t (XS.ifYes X0.here hx rfl (pc0 := 1) (pc' := 15) rfl (B d22_1) rfl ((if0 _ _).trans (feq (by decide : ¬ ((1 : Int32) = (0 : Int32)))).2) (by decide) (by decide) k)
  have pre3 : Go p e bl s1 (mkF m 17 #[iv (1 : Int32), iv c0, iv c1, iv c2, iv c3] [(.int (1 : Int32)), (.int (1 : Int32))]) s1 EF := fun t k => pre2 t (by
   refine XS.iloadN X0.here hx rfl (B d22_15) rfl ?_
   exact XS.iconst X0.here hx rfl (B d22_16) k)
  have pre4 : Go p e bl s1 (mkF m 20 #[iv (1 : Int32), iv c0, iv c1, iv c2, iv c3] []) s1 EF := fun t k => pre3 t (XS.icmpNo X0.here hx rfl (B d22_17) rfl (teq (by decide : (1 : Int32) = (1 : Int32))).2 k)
  obtain ⟨T5, h5, X5, e5, Et5, A5, D5, U5, st5⟩ := newO X0 hx hZ hown (hw _ (mW 6 rfl)) (hw _ (mW 7 rfl)) (hw _ (mW 8 rfl)) e0 (g := (mkF m 20 #[iv (1 : Int32), iv c0, iv c1, iv c2, iv c3] [])) rfl (B d22_20) (by decide) (by decide)
  obtain ⟨b5, g5⟩ : ∃ z, z = h0.size := ⟨_, rfl⟩
  rw [← g5] at A5 st5 D5
  have g_b5 : n0 ≤ b5 := Nat.le_trans Z0 (Nat.le_of_eq g5.symm)
  have sz_b5 : h0.size ≤ b5 := Nat.le_trans (Keep.refl h0 []).1 (Nat.le_of_eq g5.symm)
  have pre6 : Go p e bl T5 (mkF m 23 #[iv (1 : Int32), iv c0, iv c1, iv c2, iv c3] [(.ref b5)]) s1 EF := fun t k => pre4 t (st5 t k)
  have O7 : Old Z n0 h5 := O0.ext Et5
  have Z7 : n0 ≤ h5.size := Nat.le_trans Z0 Et5.1
  have K7 : Keep h0 h5 [] := (Keep.refl h0 []).ext Et5
  have F_value_b5 : Fld Z h5 b5 "java/lang/String" "value" "[B" .null := D5 (Or.inr (hw _ (mW 22 rfl))) (ty := (.array .byte)) (by decide)
  have F_coder_b5 : Fld Z h5 b5 "java/lang/String" "coder" "B" (.int (0 : Int32)) := D5 (Or.inr (hw _ (mW 23 rfl))) (ty := .byte) (by decide)
  have pre8 : Go p e bl T5 (mkF m 25 #[iv (1 : Int32), iv c0, iv c1, iv c2, iv c3] [(.int (1 : Int32)), (.ref b5), (.ref b5)]) s1 EF := fun t k => pre6 t (by
   refine XS.dup X5.here hx rfl (B d22_23) rfl rfl ?_
   exact XS.iconst X5.here hx rfl (B d22_24) k)
  obtain ⟨T9, h9, k9, X9, e9, Et9, A9, st9⟩ := newP X5 hx hZ (hw _ (mW 9 rfl)) e5 (g := (mkF m 25 #[iv (1 : Int32), iv c0, iv c1, iv c2, iv c3] [(.int (1 : Int32)), (.ref b5), (.ref b5)])) rfl (B d22_25) rfl (by decide) (cap := 1) (by decide) (by decide) (by decide) (by decide)
  obtain ⟨b9, g9⟩ : ∃ z, z = h5.size := ⟨_, rfl⟩
  rw [← g9] at A9 st9
  have g_b9 : n0 ≤ b9 := Nat.le_trans Z7 (Nat.le_of_eq g9.symm)
  have sz_b9 : h0.size ≤ b9 := Nat.le_trans K7.1 (Nat.le_of_eq g9.symm)
  have ne_b5_b9 : b5 ≠ b9 := Nat.ne_of_lt (Nat.lt_of_lt_of_le A5.lt (Nat.le_of_eq g9.symm))
  have pre10 : Go p e bl T9 (mkF m 27 #[iv (1 : Int32), iv c0, iv c1, iv c2, iv c3] [(.ref b9), (.ref b5), (.ref b5)]) s1 EF := fun t k => pre8 t (st9 t k)
  have O11 : Old Z n0 h9 := O7.ext Et9
  have Z11 : n0 ≤ h9.size := Nat.le_trans Z7 Et9.1
  have K11 : Keep h0 h9 [] := K7.ext Et9
  have V9 : Arv Z h9 b9 k9 .char (1 : Int32) [(.int (0 : Int32))] (.int (0 : Int32)) := (Arv.new A9 (by decide)).pad (pad_rep [] (.int (0 : Int32)) 1)
  have pre12 : Go p e bl T9 (mkF m 30 #[iv (1 : Int32), iv c0, iv c1, iv c2, iv c3] [(.int c0), (.int (0 : Int32)), (.ref b9), (.ref b9), (.ref b5), (.ref b5)]) s1 EF := fun t k => pre10 t (by
   refine XS.dup X9.here hx rfl (B d22_27) rfl rfl ?_
   refine XS.iconst X9.here hx rfl (B d22_28) ?_
   exact XS.iloadN X9.here hx rfl (B d22_29) rfl k)
  obtain ⟨cl13, Ar13, q13, Sz13, M13, H13, G13⟩ := id V9
  have hin13 : ¬ ((0 : Int32) < 0 ∨ cl13.slots.size ≤ ((0 : Int32)).toNatClampNeg) := inb_of Sz13 ⟨by decide, by decide⟩
  obtain ⟨T13, h13, X13, e13, W13, st13⟩ := stC X9 hx hZ e9 Ar13 (j := (0 : Int32)) hin13 (g := (mkF m 30 #[iv (1 : Int32), iv c0, iv c1, iv c2, iv c3] [(.int c0), (.int (0 : Int32)), (.ref b9), (.ref b9), (.ref b5), (.ref b5)])) rfl rfl (B d22_30)
  rw [(own_nc rc0.1 rc0.2)] at W13
  have pre14 : Go p e bl T13 (mkF m 31 #[iv (1 : Int32), iv c0, iv c1, iv c2, iv c3] [(.ref b9), (.ref b5), (.ref b5)]) s1 EF := fun t k => pre12 t (st13 t k)
  have O15 : Old Z n0 h13 := O11.wr W13 g_b9
  have Z15 : n0 ≤ h13.size := Nat.le_trans Z11 (Keep.of_wr W13).1
  have K15 : Keep h0 h13 [] := K11.wr W13 (Or.inr sz_b9)
  have V13 : Arv Z h13 b9 k9 .char (1 : Int32) [(.int c0)] (.int (0 : Int32)) := Arv.set Ar13 q13 Sz13 M13 H13 G13 (own_fitc (own_nc rc0.1 rc0.2)) W13 0 rfl (Nat.le_of_ble_eq_true rfl)
  have N13 := Fr.snoc X13 N0 g_b9
  obtain ⟨_, _, ⟨T16, L16, k16, n16⟩, -, X16, ⟨Lc16, hQ16, l16, y16, z16⟩, st16⟩ := X13.specialBack hx (y := mN19) rfl hown (mvT hZ (hw _ (mW 10 rfl))) (mvT hZ (hw _ (mW 11 rfl))) (mvT hZ (hw _ (mW 12 rfl))) (by decide) (backOf (W := 1) (rmKj1 l Z a0 hw [] b5 b9 cz fv k9 c0 h13 n0 Z15 O15 J0 ((A5.ext Et9).wr W13) g_b5 (Fld.other W13 (F_value_b5.ext Et9) (Or.inl ne_b5_b9)) (Fld.other W13 (F_coder_b5.ext Et9) (Or.inl ne_b5_b9)) V13 (List.forall_mem_cons.mpr ⟨rc0, (fun _ q => nomatch q)⟩)) hZ (hw _ (mW 12 rfl)) (hw _ (mW 8 rfl)) (by decide) (by decide)) (g := (mkF m 31 #[iv (1 : Int32), iv c0, iv c1, iv c2, iv c3] [(.ref b9), (.ref b5), (.ref b5)])) rfl (hM rfl) (Steps.refl _) (a := b5) (argsL := [(.ref b9)]) (rest := [(.ref b5)]) (lenOf pd14 rfl) rfl (Nat.le_of_eq rfl) (B d22_31) (fun _ _ => ⟨rfl, e13, wl rfl, wl rfl⟩)
  dsimp only [Pt.U, Pt.locs, Pt.cells, Pt.slots] at X16 l16 y16 z16 st16 hQ16
  subst l16 y16 z16
  obtain ⟨rfl, N16q, K16, SF16⟩ := hQ16
  have N16 := Fr.app N13 N16q
  have pre17 : Go p e bl T16 (mkF m 34 #[iv (1 : Int32), iv c0, iv c1, iv c2, iv c3] [(.ref b5)]) s1 EF := fun t k => pre14 t (st16.trans k)
  have O18 : Old Z n0 T16.heap := O15.keep K16 (allS g_b5 all0)
  have Z18 : n0 ≤ T16.heap.size := Nat.le_trans Z15 K16.1
  have K18 : Keep h0 T16.heap [] := K15.trans K16 (allS (Or.inr sz_b5) all0)
  exact fin1 X16 (v := some (.ref b5)) hrt hlk (wl rfl) (wl rfl) (by exact ⟨_, rfl, N16, K18, SF16⟩) (fun fs hr => hEF ▸ pre17 _ (retOut X16 hx Bd.returns rfl (Or.inr (Or.inr (Or.inr (Or.inr ⟨rfl, rfl, rfl⟩)))) (B d22_34) hr))
abbrev rKB2 : Room := { frames := 6, cells := 4, slots := 12, locals := 88 }
theorem d22_35 : decode method_3_code 35 = .ok (.iload_n 0, 1) := by decide +kernel
theorem d22_36 : decode method_3_code 36 = .ok (.iconst 2, 1) := by decide +kernel
theorem d22_37 : decode method_3_code 37 = .ok (.if_icmp .ne 22, 3) := by decide +kernel
theorem d22_40 : decode method_3_code 40 = .ok (.new 7, 3) := by decide +kernel
theorem d22_43 : decode method_3_code 43 = .ok (.dup, 1) := by decide +kernel
theorem d22_44 : decode method_3_code 44 = .ok (.iconst 2, 1) := by decide +kernel
theorem d22_45 : decode method_3_code 45 = .ok (.newarray .char, 2) := by decide +kernel
theorem d22_47 : decode method_3_code 47 = .ok (.dup, 1) := by decide +kernel
theorem d22_48 : decode method_3_code 48 = .ok (.iconst 0, 1) := by decide +kernel
theorem d22_49 : decode method_3_code 49 = .ok (.iload_n 1, 1) := by decide +kernel
theorem d22_50 : decode method_3_code 50 = .ok (.castore, 1) := by decide +kernel
theorem d22_51 : decode method_3_code 51 = .ok (.dup, 1) := by decide +kernel
theorem d22_52 : decode method_3_code 52 = .ok (.iconst 1, 1) := by decide +kernel
theorem d22_53 : decode method_3_code 53 = .ok (.iload_n 2, 1) := by decide +kernel
theorem d22_54 : decode method_3_code 54 = .ok (.castore, 1) := by decide +kernel
theorem d22_55 : decode method_3_code 55 = .ok (.invokespecial 9, 3) := by decide +kernel
theorem d22_58 : decode method_3_code 58 = .ok (.areturn, 1) := by decide +kernel
theorem efB2 (m : MethodId) (c0 : Int32) (c1 : Int32) (c2 : Int32) (c3 : Int32) : entryFrame m #[(.int (2 : Int32)), (.int c0), (.int c1), (.int c2), (.int c3)] 5 = mkF m 0 #[iv (2 : Int32), iv c0, iv c1, iv c2, iv c3] [] := by first | (simp [entryFrame, mkF, argsToLocals, Value.category]; done) | rfl
def QB2 (Z : State) (c0 : Int32) (c1 : Int32) (c2 : Int32) (c3 : Int32) (cz : Int32) (fv : Value) (h0 : Heap) (n0 : Nat) (v : Option Value) (h : Heap) (L : List Loc) : Prop := ∃ b, v = some (.ref b) ∧ Fr n0 L ∧ Keep h0 h [] ∧ Str Z h b [c0, c1]
set_option maxRecDepth 65536 in
set_option maxHeartbeats 40000000 in
theorem rmB2 (l : Launch) (Z : State) (a0 : Array Value) (hw : HW a0 Z) (ws : List Jvm.Cond) (c0 : Int32) (c1 : Int32) (c2 : Int32) (c3 : Int32) (cz : Int32) (fv : Value) (h0 : Heap) (n0 : Nat) (Z0 : n0 ≤ h0.size) (O0 : Old Z n0 h0) (J0 : Jd Z cz fv) (rc0 : 0 ≤ c0.toInt ∧ c0.toInt < 65536) (rc1 : 0 ≤ c1.toInt ∧ c1.toInt < 65536) (rc2 : 0 ≤ c2.toInt ∧ c2.toInt < 65536) (rc3 : 0 ≤ c3.toInt ∧ c3.toInt < 65536) :
    MF l Z mN22 method_3_code 5 (some (.object "java/lang/String")) ws rKB2 #[(.int (2 : Int32)), (.int c0), (.int c1), (.int c2), (.int c3)] h0 (QB2 Z c0 c1 c2 c3 cz fv h0 n0) := by
  refine MetFree.of_bodySF (plainFor_of_name pn5) hisR ?_
  intro p e s m args bl meth c s1 Bd hml0 hP hK
  obtain ⟨rfl, hZ, hh⟩ := hP
  have hx := Bd.exec
  have hby := Bd.bytes
  have B := @hb c _ hby
  have hM := fun {n : Nat} (h : n = 5) => h.trans hml0.symm
  have hown : s.vm.findClass "com/example/oxpecker/oxpecker/http/HttpInputTokenEndPinLaw" = some m.cls := findClass_of_methodNamed Bd.named
  have hlk : meth.locks = false := BodyLoose.notSynchronized Bd
  have hrt : ∀ {v : Option Value}, meth.sig.returnType = none → v = none := fun h => by rw [Bd.returns] at h; cases h
  have X0 : Stand p l e rKB2 s m #[(.int (2 : Int32)), (.int c0), (.int c1), (.int c2), (.int c3)] bl meth c s1 [] 0 0 := Stand.of_body Bd
  have e0 : s1.heap = h0 := by rw [← hh, Bd.state]; rfl
  have N0 := Fr.nil n0
  obtain ⟨EF, hEF⟩ : ∃ f, f = entryFrame m #[(.int (2 : Int32)), (.int c0), (.int c1), (.int c2), (.int c3)] 5 := ⟨_, rfl⟩
  have pre0 : Go p e bl s1 (mkF m 0 #[iv (2 : Int32), iv c0, iv c1, iv c2, iv c3] []) s1 EF := fun t k => by rw [hEF]; exact castTop (efB2 m c0 c1 c2 c3) k
  have pre1 : Go p e bl s1 (mkF m 1 #[iv (2 : Int32), iv c0, iv c1, iv c2, iv c3] [(.int (2 : Int32))]) s1 EF := fun t k => pre0 t (by
   exact XS.iloadN X0.here hx rfl (B d22_0) rfl k)
  have pre2 : Go p e bl s1 (mkF m 15 #[iv (2 : Int32), iv c0, iv c1, iv c2, iv c3] []) s1 EF := fun t k => pre1 t (XS.ifYes X0.here hx rfl (pc0 := 1) (pc' := 15) rfl (B d22_1) rfl ((if0 _ _).trans (feq (by decide : ¬ ((2 : Int32) = (0 : Int32)))).2) (by decide) (by decide) k)
  have pre3 : Go p e bl s1 (mkF m 17 #[iv (2 : Int32), iv c0, iv c1, iv c2, iv c3] [(.int (1 : Int32)), (.int (2 : Int32))]) s1 EF := fun t k => pre2 t (by
   refine XS.iloadN X0.here hx rfl (B d22_15) rfl ?_
   exact XS.iconst X0.here hx rfl (B d22_16) k)
  have pre4 : Go p e bl s1 (mkF m 35 #[iv (2 : Int32), iv c0, iv c1, iv c2, iv c3] []) s1 EF := fun t k => pre3 t (XS.icmpYes X0.here hx rfl (pc0 := 17) (pc' := 35) rfl (B d22_17) rfl (feq (by decide : ¬ ((2 : Int32) = (1 : Int32)))).2 (by decide) (by decide) k)
  have pre5 : Go p e bl s1 (mkF m 37 #[iv (2 : Int32), iv c0, iv c1, iv c2, iv c3] [(.int (2 : Int32)), (.int (2 : Int32))]) s1 EF := fun t k => pre4 t (by
   refine XS.iloadN X0.here hx rfl (B d22_35) rfl ?_
   exact XS.iconst X0.here hx rfl (B d22_36) k)
  have pre6 : Go p e bl s1 (mkF m 40 #[iv (2 : Int32), iv c0, iv c1, iv c2, iv c3] []) s1 EF := fun t k => pre5 t (XS.icmpNo X0.here hx rfl (B d22_37) rfl (teq (by decide : (2 : Int32) = (2 : Int32))).2 k)
  obtain ⟨T7, h7, X7, e7, Et7, A7, D7, U7, st7⟩ := newO X0 hx hZ hown (hw _ (mW 6 rfl)) (hw _ (mW 7 rfl)) (hw _ (mW 8 rfl)) e0 (g := (mkF m 40 #[iv (2 : Int32), iv c0, iv c1, iv c2, iv c3] [])) rfl (B d22_40) (by decide) (by decide)
  obtain ⟨b7, g7⟩ : ∃ z, z = h0.size := ⟨_, rfl⟩
  rw [← g7] at A7 st7 D7
  have g_b7 : n0 ≤ b7 := Nat.le_trans Z0 (Nat.le_of_eq g7.symm)
  have sz_b7 : h0.size ≤ b7 := Nat.le_trans (Keep.refl h0 []).1 (Nat.le_of_eq g7.symm)
  have pre8 : Go p e bl T7 (mkF m 43 #[iv (2 : Int32), iv c0, iv c1, iv c2, iv c3] [(.ref b7)]) s1 EF := fun t k => pre6 t (st7 t k)
  have O9 : Old Z n0 h7 := O0.ext Et7
  have Z9 : n0 ≤ h7.size := Nat.le_trans Z0 Et7.1
  have K9 : Keep h0 h7 [] := (Keep.refl h0 []).ext Et7
  have F_value_b7 : Fld Z h7 b7 "java/lang/String" "value" "[B" .null := D7 (Or.inr (hw _ (mW 22 rfl))) (ty := (.array .byte)) (by decide)
  have F_coder_b7 : Fld Z h7 b7 "java/lang/String" "coder" "B" (.int (0 : Int32)) := D7 (Or.inr (hw _ (mW 23 rfl))) (ty := .byte) (by decide)
  have pre10 : Go p e bl T7 (mkF m 45 #[iv (2 : Int32), iv c0, iv c1, iv c2, iv c3] [(.int (2 : Int32)), (.ref b7), (.ref b7)]) s1 EF := fun t k => pre8 t (by
   refine XS.dup X7.here hx rfl (B d22_43) rfl rfl ?_
   exact XS.iconst X7.here hx rfl (B d22_44) k)
  obtain ⟨T11, h11, k11, X11, e11, Et11, A11, st11⟩ := newP X7 hx hZ (hw _ (mW 9 rfl)) e7 (g := (mkF m 45 #[iv (2 : Int32), iv c0, iv c1, iv c2, iv c3] [(.int (2 : Int32)), (.ref b7), (.ref b7)])) rfl (B d22_45) rfl (by decide) (cap := 2) (by decide) (by decide) (by decide) (by decide)
  obtain ⟨b11, g11⟩ : ∃ z, z = h7.size := ⟨_, rfl⟩
  rw [← g11] at A11 st11
  have g_b11 : n0 ≤ b11 := Nat.le_trans Z9 (Nat.le_of_eq g11.symm)
  have sz_b11 : h0.size ≤ b11 := Nat.le_trans K9.1 (Nat.le_of_eq g11.symm)
  have ne_b7_b11 : b7 ≠ b11 := Nat.ne_of_lt (Nat.lt_of_lt_of_le A7.lt (Nat.le_of_eq g11.symm))
  have pre12 : Go p e bl T11 (mkF m 47 #[iv (2 : Int32), iv c0, iv c1, iv c2, iv c3] [(.ref b11), (.ref b7), (.ref b7)]) s1 EF := fun t k => pre10 t (st11 t k)
  have O13 : Old Z n0 h11 := O9.ext Et11
  have Z13 : n0 ≤ h11.size := Nat.le_trans Z9 Et11.1
  have K13 : Keep h0 h11 [] := K9.ext Et11
  have V11 : Arv Z h11 b11 k11 .char (2 : Int32) [(.int (0 : Int32)), (.int (0 : Int32))] (.int (0 : Int32)) := (Arv.new A11 (by decide)).pad (pad_rep [] (.int (0 : Int32)) 2)
  have pre14 : Go p e bl T11 (mkF m 50 #[iv (2 : Int32), iv c0, iv c1, iv c2, iv c3] [(.int c0), (.int (0 : Int32)), (.ref b11), (.ref b11), (.ref b7), (.ref b7)]) s1 EF := fun t k => pre12 t (by
   refine XS.dup X11.here hx rfl (B d22_47) rfl rfl ?_
   refine XS.iconst X11.here hx rfl (B d22_48) ?_
   exact XS.iloadN X11.here hx rfl (B d22_49) rfl k)
  obtain ⟨cl15, Ar15, q15, Sz15, M15, H15, G15⟩ := id V11
  have hin15 : ¬ ((0 : Int32) < 0 ∨ cl15.slots.size ≤ ((0 : Int32)).toNatClampNeg) := inb_of Sz15 ⟨by decide, by decide⟩
  obtain ⟨T15, h15, X15, e15, W15, st15⟩ := stC X11 hx hZ e11 Ar15 (j := (0 : Int32)) hin15 (g := (mkF m 50 #[iv (2 : Int32), iv c0, iv c1, iv c2, iv c3] [(.int c0), (.int (0 : Int32)), (.ref b11), (.ref b11), (.ref b7), (.ref b7)])) rfl rfl (B d22_50)
  rw [(own_nc rc0.1 rc0.2)] at W15
  have pre16 : Go p e bl T15 (mkF m 51 #[iv (2 : Int32), iv c0, iv c1, iv c2, iv c3] [(.ref b11), (.ref b7), (.ref b7)]) s1 EF := fun t k => pre14 t (st15 t k)
  have O17 : Old Z n0 h15 := O13.wr W15 g_b11
  have Z17 : n0 ≤ h15.size := Nat.le_trans Z13 (Keep.of_wr W15).1
  have K17 : Keep h0 h15 [] := K13.wr W15 (Or.inr sz_b11)
  have V15 : Arv Z h15 b11 k11 .char (2 : Int32) [(.int c0), (.int (0 : Int32))] (.int (0 : Int32)) := Arv.set Ar15 q15 Sz15 M15 H15 G15 (own_fitc (own_nc rc0.1 rc0.2)) W15 0 rfl (Nat.le_of_ble_eq_true rfl)
  have N15 := Fr.snoc X15 N0 g_b11
  have pre18 : Go p e bl T15 (mkF m 54 #[iv (2 : Int32), iv c0, iv c1, iv c2, iv c3] [(.int c1), (.int (1 : Int32)), (.ref b11), (.ref b11), (.ref b7), (.ref b7)]) s1 EF := fun t k => pre16 t (by
   refine XS.dup X15.here hx rfl (B d22_51) rfl rfl ?_
   refine XS.iconst X15.here hx rfl (B d22_52) ?_
   exact XS.iloadN X15.here hx rfl (B d22_53) rfl k)
  obtain ⟨cl19, Ar19, q19, Sz19, M19, H19, G19⟩ := id V15
  have hin19 : ¬ ((1 : Int32) < 0 ∨ cl19.slots.size ≤ ((1 : Int32)).toNatClampNeg) := inb_of Sz19 ⟨by decide, by decide⟩
  obtain ⟨T19, h19, X19, e19, W19, st19⟩ := stC X15 hx hZ e15 Ar19 (j := (1 : Int32)) hin19 (g := (mkF m 54 #[iv (2 : Int32), iv c0, iv c1, iv c2, iv c3] [(.int c1), (.int (1 : Int32)), (.ref b11), (.ref b11), (.ref b7), (.ref b7)])) rfl rfl (B d22_54)
  rw [(own_nc rc1.1 rc1.2)] at W19
  have pre20 : Go p e bl T19 (mkF m 55 #[iv (2 : Int32), iv c0, iv c1, iv c2, iv c3] [(.ref b11), (.ref b7), (.ref b7)]) s1 EF := fun t k => pre18 t (st19 t k)
  have O21 : Old Z n0 h19 := O17.wr W19 g_b11
  have Z21 : n0 ≤ h19.size := Nat.le_trans Z17 (Keep.of_wr W19).1
  have K21 : Keep h0 h19 [] := K17.wr W19 (Or.inr sz_b11)
  have V19 : Arv Z h19 b11 k11 .char (2 : Int32) [(.int c0), (.int c1)] (.int (0 : Int32)) := Arv.set Ar19 q19 Sz19 M19 H19 G19 (own_fitc (own_nc rc1.1 rc1.2)) W19 1 rfl (Nat.le_of_ble_eq_true rfl)
  have N19 := Fr.snoc X19 N15 g_b11
  obtain ⟨_, _, ⟨T22, L22, k22, n22⟩, -, X22, ⟨Lc22, hQ22, l22, y22, z22⟩, st22⟩ := X19.specialBack hx (y := mN19) rfl hown (mvT hZ (hw _ (mW 10 rfl))) (mvT hZ (hw _ (mW 11 rfl))) (mvT hZ (hw _ (mW 12 rfl))) (by decide) (backOf (W := 1) (rmKj2 l Z a0 hw [] b7 b11 cz fv k11 c0 c1 h19 n0 Z21 O21 J0 (((A7.ext Et11).wr W15).wr W19) g_b7 (Fld.other W19 (Fld.other W15 (F_value_b7.ext Et11) (Or.inl ne_b7_b11)) (Or.inl ne_b7_b11)) (Fld.other W19 (Fld.other W15 (F_coder_b7.ext Et11) (Or.inl ne_b7_b11)) (Or.inl ne_b7_b11)) V19 (List.forall_mem_cons.mpr ⟨rc0, (List.forall_mem_cons.mpr ⟨rc1, (fun _ q => nomatch q)⟩)⟩)) hZ (hw _ (mW 12 rfl)) (hw _ (mW 8 rfl)) (by decide) (by decide)) (g := (mkF m 55 #[iv (2 : Int32), iv c0, iv c1, iv c2, iv c3] [(.ref b11), (.ref b7), (.ref b7)])) rfl (hM rfl) (Steps.refl _) (a := b7) (argsL := [(.ref b11)]) (rest := [(.ref b7)]) (lenOf pd14 rfl) rfl (Nat.le_of_eq rfl) (B d22_55) (fun _ _ => ⟨rfl, e19, wl rfl, wl rfl⟩)
  dsimp only [Pt.U, Pt.locs, Pt.cells, Pt.slots] at X22 l22 y22 z22 st22 hQ22
  subst l22 y22 z22
  obtain ⟨rfl, N22q, K22, SF22⟩ := hQ22
  have N22 := Fr.app N19 N22q
  have pre23 : Go p e bl T22 (mkF m 58 #[iv (2 : Int32), iv c0, iv c1, iv c2, iv c3] [(.ref b7)]) s1 EF := fun t k => pre20 t (st22.trans k)
  have O24 : Old Z n0 T22.heap := O21.keep K22 (allS g_b7 all0)
  have Z24 : n0 ≤ T22.heap.size := Nat.le_trans Z21 K22.1
  have K24 : Keep h0 T22.heap [] := K21.trans K22 (allS (Or.inr sz_b7) all0)
  exact fin1 X22 (v := some (.ref b7)) hrt hlk (wl rfl) (wl rfl) (by exact ⟨_, rfl, N22, K24, SF22⟩) (fun fs hr => hEF ▸ pre23 _ (retOut X22 hx Bd.returns rfl (Or.inr (Or.inr (Or.inr (Or.inr ⟨rfl, rfl, rfl⟩)))) (B d22_58) hr))
abbrev rKB3 : Room := { frames := 6, cells := 4, slots := 16, locals := 88 }
theorem d22_59 : decode method_3_code 59 = .ok (.iload_n 0, 1) := by decide +kernel
theorem d22_60 : decode method_3_code 60 = .ok (.iconst 3, 1) := by decide +kernel
theorem d22_61 : decode method_3_code 61 = .ok (.if_icmp .ne 26, 3) := by decide +kernel
theorem d22_64 : decode method_3_code 64 = .ok (.new 7, 3) := by decide +kernel
theorem d22_67 : decode method_3_code 67 = .ok (.dup, 1) := by decide +kernel
theorem d22_68 : decode method_3_code 68 = .ok (.iconst 3, 1) := by decide +kernel
theorem d22_69 : decode method_3_code 69 = .ok (.newarray .char, 2) := by decide +kernel
theorem d22_71 : decode method_3_code 71 = .ok (.dup, 1) := by decide +kernel
theorem d22_72 : decode method_3_code 72 = .ok (.iconst 0, 1) := by decide +kernel
theorem d22_73 : decode method_3_code 73 = .ok (.iload_n 1, 1) := by decide +kernel
theorem d22_74 : decode method_3_code 74 = .ok (.castore, 1) := by decide +kernel
theorem d22_75 : decode method_3_code 75 = .ok (.dup, 1) := by decide +kernel
theorem d22_76 : decode method_3_code 76 = .ok (.iconst 1, 1) := by decide +kernel
theorem d22_77 : decode method_3_code 77 = .ok (.iload_n 2, 1) := by decide +kernel
theorem d22_78 : decode method_3_code 78 = .ok (.castore, 1) := by decide +kernel
theorem d22_79 : decode method_3_code 79 = .ok (.dup, 1) := by decide +kernel
theorem d22_80 : decode method_3_code 80 = .ok (.iconst 2, 1) := by decide +kernel
theorem d22_81 : decode method_3_code 81 = .ok (.iload_n 3, 1) := by decide +kernel
theorem d22_82 : decode method_3_code 82 = .ok (.castore, 1) := by decide +kernel
theorem d22_83 : decode method_3_code 83 = .ok (.invokespecial 9, 3) := by decide +kernel
theorem d22_86 : decode method_3_code 86 = .ok (.areturn, 1) := by decide +kernel
theorem efB3 (m : MethodId) (c0 : Int32) (c1 : Int32) (c2 : Int32) (c3 : Int32) : entryFrame m #[(.int (3 : Int32)), (.int c0), (.int c1), (.int c2), (.int c3)] 5 = mkF m 0 #[iv (3 : Int32), iv c0, iv c1, iv c2, iv c3] [] := by first | (simp [entryFrame, mkF, argsToLocals, Value.category]; done) | rfl
def QB3 (Z : State) (c0 : Int32) (c1 : Int32) (c2 : Int32) (c3 : Int32) (cz : Int32) (fv : Value) (h0 : Heap) (n0 : Nat) (v : Option Value) (h : Heap) (L : List Loc) : Prop := ∃ b, v = some (.ref b) ∧ Fr n0 L ∧ Keep h0 h [] ∧ Str Z h b [c0, c1, c2]
set_option maxRecDepth 65536 in
set_option maxHeartbeats 40000000 in
theorem rmB3 (l : Launch) (Z : State) (a0 : Array Value) (hw : HW a0 Z) (ws : List Jvm.Cond) (c0 : Int32) (c1 : Int32) (c2 : Int32) (c3 : Int32) (cz : Int32) (fv : Value) (h0 : Heap) (n0 : Nat) (Z0 : n0 ≤ h0.size) (O0 : Old Z n0 h0) (J0 : Jd Z cz fv) (rc0 : 0 ≤ c0.toInt ∧ c0.toInt < 65536) (rc1 : 0 ≤ c1.toInt ∧ c1.toInt < 65536) (rc2 : 0 ≤ c2.toInt ∧ c2.toInt < 65536) (rc3 : 0 ≤ c3.toInt ∧ c3.toInt < 65536) :
    MF l Z mN22 method_3_code 5 (some (.object "java/lang/String")) ws rKB3 #[(.int (3 : Int32)), (.int c0), (.int c1), (.int c2), (.int c3)] h0 (QB3 Z c0 c1 c2 c3 cz fv h0 n0) := by
  refine MetFree.of_bodySF (plainFor_of_name pn5) hisR ?_
  intro p e s m args bl meth c s1 Bd hml0 hP hK
  obtain ⟨rfl, hZ, hh⟩ := hP
  have hx := Bd.exec
  have hby := Bd.bytes
  have B := @hb c _ hby
  have hM := fun {n : Nat} (h : n = 5) => h.trans hml0.symm
  have hown : s.vm.findClass "com/example/oxpecker/oxpecker/http/HttpInputTokenEndPinLaw" = some m.cls := findClass_of_methodNamed Bd.named
  have hlk : meth.locks = false := BodyLoose.notSynchronized Bd
  have hrt : ∀ {v : Option Value}, meth.sig.returnType = none → v = none := fun h => by rw [Bd.returns] at h; cases h
  have X0 : Stand p l e rKB3 s m #[(.int (3 : Int32)), (.int c0), (.int c1), (.int c2), (.int c3)] bl meth c s1 [] 0 0 := Stand.of_body Bd
  have e0 : s1.heap = h0 := by rw [← hh, Bd.state]; rfl
  have N0 := Fr.nil n0
  obtain ⟨EF, hEF⟩ : ∃ f, f = entryFrame m #[(.int (3 : Int32)), (.int c0), (.int c1), (.int c2), (.int c3)] 5 := ⟨_, rfl⟩
  have pre0 : Go p e bl s1 (mkF m 0 #[iv (3 : Int32), iv c0, iv c1, iv c2, iv c3] []) s1 EF := fun t k => by rw [hEF]; exact castTop (efB3 m c0 c1 c2 c3) k
  have pre1 : Go p e bl s1 (mkF m 1 #[iv (3 : Int32), iv c0, iv c1, iv c2, iv c3] [(.int (3 : Int32))]) s1 EF := fun t k => pre0 t (by
   exact XS.iloadN X0.here hx rfl (B d22_0) rfl k)
  have pre2 : Go p e bl s1 (mkF m 15 #[iv (3 : Int32), iv c0, iv c1, iv c2, iv c3] []) s1 EF := fun t k => pre1 t (XS.ifYes X0.here hx rfl (pc0 := 1) (pc' := 15) rfl (B d22_1) rfl ((if0 _ _).trans (feq (by decide : ¬ ((3 : Int32) = (0 : Int32)))).2) (by decide) (by decide) k)
  have pre3 : Go p e bl s1 (mkF m 17 #[iv (3 : Int32), iv c0, iv c1, iv c2, iv c3] [(.int (1 : Int32)), (.int (3 : Int32))]) s1 EF := fun t k => pre2 t (by
   refine XS.iloadN X0.here hx rfl (B d22_15) rfl ?_
   exact XS.iconst X0.here hx rfl (B d22_16) k)
  have pre4 : Go p e bl s1 (mkF m 35 #[iv (3 : Int32), iv c0, iv c1, iv c2, iv c3] []) s1 EF := fun t k => pre3 t (XS.icmpYes X0.here hx rfl (pc0 := 17) (pc' := 35) rfl (B d22_17) rfl (feq (by decide : ¬ ((3 : Int32) = (1 : Int32)))).2 (by decide) (by decide) k)
  have pre5 : Go p e bl s1 (mkF m 37 #[iv (3 : Int32), iv c0, iv c1, iv c2, iv c3] [(.int (2 : Int32)), (.int (3 : Int32))]) s1 EF := fun t k => pre4 t (by
   refine XS.iloadN X0.here hx rfl (B d22_35) rfl ?_
   exact XS.iconst X0.here hx rfl (B d22_36) k)
  have pre6 : Go p e bl s1 (mkF m 59 #[iv (3 : Int32), iv c0, iv c1, iv c2, iv c3] []) s1 EF := fun t k => pre5 t (XS.icmpYes X0.here hx rfl (pc0 := 37) (pc' := 59) rfl (B d22_37) rfl (feq (by decide : ¬ ((3 : Int32) = (2 : Int32)))).2 (by decide) (by decide) k)
  have pre7 : Go p e bl s1 (mkF m 61 #[iv (3 : Int32), iv c0, iv c1, iv c2, iv c3] [(.int (3 : Int32)), (.int (3 : Int32))]) s1 EF := fun t k => pre6 t (by
   refine XS.iloadN X0.here hx rfl (B d22_59) rfl ?_
   exact XS.iconst X0.here hx rfl (B d22_60) k)
  have pre8 : Go p e bl s1 (mkF m 64 #[iv (3 : Int32), iv c0, iv c1, iv c2, iv c3] []) s1 EF := fun t k => pre7 t (XS.icmpNo X0.here hx rfl (B d22_61) rfl (teq (by decide : (3 : Int32) = (3 : Int32))).2 k)
  obtain ⟨T9, h9, X9, e9, Et9, A9, D9, U9, st9⟩ := newO X0 hx hZ hown (hw _ (mW 6 rfl)) (hw _ (mW 7 rfl)) (hw _ (mW 8 rfl)) e0 (g := (mkF m 64 #[iv (3 : Int32), iv c0, iv c1, iv c2, iv c3] [])) rfl (B d22_64) (by decide) (by decide)
  obtain ⟨b9, g9⟩ : ∃ z, z = h0.size := ⟨_, rfl⟩
  rw [← g9] at A9 st9 D9
  have g_b9 : n0 ≤ b9 := Nat.le_trans Z0 (Nat.le_of_eq g9.symm)
  have sz_b9 : h0.size ≤ b9 := Nat.le_trans (Keep.refl h0 []).1 (Nat.le_of_eq g9.symm)
  have pre10 : Go p e bl T9 (mkF m 67 #[iv (3 : Int32), iv c0, iv c1, iv c2, iv c3] [(.ref b9)]) s1 EF := fun t k => pre8 t (st9 t k)
  have O11 : Old Z n0 h9 := O0.ext Et9
  have Z11 : n0 ≤ h9.size := Nat.le_trans Z0 Et9.1
  have K11 : Keep h0 h9 [] := (Keep.refl h0 []).ext Et9
  have F_value_b9 : Fld Z h9 b9 "java/lang/String" "value" "[B" .null := D9 (Or.inr (hw _ (mW 22 rfl))) (ty := (.array .byte)) (by decide)
  have F_coder_b9 : Fld Z h9 b9 "java/lang/String" "coder" "B" (.int (0 : Int32)) := D9 (Or.inr (hw _ (mW 23 rfl))) (ty := .byte) (by decide)
  have pre12 : Go p e bl T9 (mkF m 69 #[iv (3 : Int32), iv c0, iv c1, iv c2, iv c3] [(.int (3 : Int32)), (.ref b9), (.ref b9)]) s1 EF := fun t k => pre10 t (by
   refine XS.dup X9.here hx rfl (B d22_67) rfl rfl ?_
   exact XS.iconst X9.here hx rfl (B d22_68) k)
  obtain ⟨T13, h13, k13, X13, e13, Et13, A13, st13⟩ := newP X9 hx hZ (hw _ (mW 9 rfl)) e9 (g := (mkF m 69 #[iv (3 : Int32), iv c0, iv c1, iv c2, iv c3] [(.int (3 : Int32)), (.ref b9), (.ref b9)])) rfl (B d22_69) rfl (by decide) (cap := 3) (by decide) (by decide) (by decide) (by decide)
  obtain ⟨b13, g13⟩ : ∃ z, z = h9.size := ⟨_, rfl⟩
  rw [← g13] at A13 st13
  have g_b13 : n0 ≤ b13 := Nat.le_trans Z11 (Nat.le_of_eq g13.symm)
  have sz_b13 : h0.size ≤ b13 := Nat.le_trans K11.1 (Nat.le_of_eq g13.symm)
  have ne_b9_b13 : b9 ≠ b13 := Nat.ne_of_lt (Nat.lt_of_lt_of_le A9.lt (Nat.le_of_eq g13.symm))
  have pre14 : Go p e bl T13 (mkF m 71 #[iv (3 : Int32), iv c0, iv c1, iv c2, iv c3] [(.ref b13), (.ref b9), (.ref b9)]) s1 EF := fun t k => pre12 t (st13 t k)
  have O15 : Old Z n0 h13 := O11.ext Et13
  have Z15 : n0 ≤ h13.size := Nat.le_trans Z11 Et13.1
  have K15 : Keep h0 h13 [] := K11.ext Et13
  have V13 : Arv Z h13 b13 k13 .char (3 : Int32) [(.int (0 : Int32)), (.int (0 : Int32)), (.int (0 : Int32))] (.int (0 : Int32)) := (Arv.new A13 (by decide)).pad (pad_rep [] (.int (0 : Int32)) 3)
  have pre16 : Go p e bl T13 (mkF m 74 #[iv (3 : Int32), iv c0, iv c1, iv c2, iv c3] [(.int c0), (.int (0 : Int32)), (.ref b13), (.ref b13), (.ref b9), (.ref b9)]) s1 EF := fun t k => pre14 t (by
   refine XS.dup X13.here hx rfl (B d22_71) rfl rfl ?_
   refine XS.iconst X13.here hx rfl (B d22_72) ?_
   exact XS.iloadN X13.here hx rfl (B d22_73) rfl k)
  obtain ⟨cl17, Ar17, q17, Sz17, M17, H17, G17⟩ := id V13
  have hin17 : ¬ ((0 : Int32) < 0 ∨ cl17.slots.size ≤ ((0 : Int32)).toNatClampNeg) := inb_of Sz17 ⟨by decide, by decide⟩
  obtain ⟨T17, h17, X17, e17, W17, st17⟩ := stC X13 hx hZ e13 Ar17 (j := (0 : Int32)) hin17 (g := (mkF m 74 #[iv (3 : Int32), iv c0, iv c1, iv c2, iv c3] [(.int c0), (.int (0 : Int32)), (.ref b13), (.ref b13), (.ref b9), (.ref b9)])) rfl rfl (B d22_74)
  rw [(own_nc rc0.1 rc0.2)] at W17
  have pre18 : Go p e bl T17 (mkF m 75 #[iv (3 : Int32), iv c0, iv c1, iv c2, iv c3] [(.ref b13), (.ref b9), (.ref b9)]) s1 EF := fun t k => pre16 t (st17 t k)
  have O19 : Old Z n0 h17 := O15.wr W17 g_b13
  have Z19 : n0 ≤ h17.size := Nat.le_trans Z15 (Keep.of_wr W17).1
  have K19 : Keep h0 h17 [] := K15.wr W17 (Or.inr sz_b13)
  have V17 : Arv Z h17 b13 k13 .char (3 : Int32) [(.int c0), (.int (0 : Int32)), (.int (0 : Int32))] (.int (0 : Int32)) := Arv.set Ar17 q17 Sz17 M17 H17 G17 (own_fitc (own_nc rc0.1 rc0.2)) W17 0 rfl (Nat.le_of_ble_eq_true rfl)
  have N17 := Fr.snoc X17 N0 g_b13
  have pre20 : Go p e bl T17 (mkF m 78 #[iv (3 : Int32), iv c0, iv c1, iv c2, iv c3] [(.int c1), (.int (1 : Int32)), (.ref b13), (.ref b13), (.ref b9), (.ref b9)]) s1 EF := fun t k => pre18 t (by
   refine XS.dup X17.here hx rfl (B d22_75) rfl rfl ?_
   refine XS.iconst X17.here hx rfl (B d22_76) ?_
   exact XS.iloadN X17.here hx rfl (B d22_77) rfl k)
  obtain ⟨cl21, Ar21, q21, Sz21, M21, H21, G21⟩ := id V17
  have hin21 : ¬ ((1 : Int32) < 0 ∨ cl21.slots.size ≤ ((1 : Int32)).toNatClampNeg) := inb_of Sz21 ⟨by decide, by decide⟩
  obtain ⟨T21, h21, X21, e21, W21, st21⟩ := stC X17 hx hZ e17 Ar21 (j := (1 : Int32)) hin21 (g := (mkF m 78 #[iv (3 : Int32), iv c0, iv c1, iv c2, iv c3] [(.int c1), (.int (1 : Int32)), (.ref b13), (.ref b13), (.ref b9), (.ref b9)])) rfl rfl (B d22_78)
  rw [(own_nc rc1.1 rc1.2)] at W21
  have pre22 : Go p e bl T21 (mkF m 79 #[iv (3 : Int32), iv c0, iv c1, iv c2, iv c3] [(.ref b13), (.ref b9), (.ref b9)]) s1 EF := fun t k => pre20 t (st21 t k)
  have O23 : Old Z n0 h21 := O19.wr W21 g_b13
  have Z23 : n0 ≤ h21.size := Nat.le_trans Z19 (Keep.of_wr W21).1
  have K23 : Keep h0 h21 [] := K19.wr W21 (Or.inr sz_b13)
  have V21 : Arv Z h21 b13 k13 .char (3 : Int32) [(.int c0), (.int c1), (.int (0 : Int32))] (.int (0 : Int32)) := Arv.set Ar21 q21 Sz21 M21 H21 G21 (own_fitc (own_nc rc1.1 rc1.2)) W21 1 rfl (Nat.le_of_ble_eq_true rfl)
  have N21 := Fr.snoc X21 N17 g_b13
  have pre24 : Go p e bl T21 (mkF m 82 #[iv (3 : Int32), iv c0, iv c1, iv c2, iv c3] [(.int c2), (.int (2 : Int32)), (.ref b13), (.ref b13), (.ref b9), (.ref b9)]) s1 EF := fun t k => pre22 t (by
   refine XS.dup X21.here hx rfl (B d22_79) rfl rfl ?_
   refine XS.iconst X21.here hx rfl (B d22_80) ?_
   exact XS.iloadN X21.here hx rfl (B d22_81) rfl k)
  obtain ⟨cl25, Ar25, q25, Sz25, M25, H25, G25⟩ := id V21
  have hin25 : ¬ ((2 : Int32) < 0 ∨ cl25.slots.size ≤ ((2 : Int32)).toNatClampNeg) := inb_of Sz25 ⟨by decide, by decide⟩
  obtain ⟨T25, h25, X25, e25, W25, st25⟩ := stC X21 hx hZ e21 Ar25 (j := (2 : Int32)) hin25 (g := (mkF m 82 #[iv (3 : Int32), iv c0, iv c1, iv c2, iv c3] [(.int c2), (.int (2 : Int32)), (.ref b13), (.ref b13), (.ref b9), (.ref b9)])) rfl rfl (B d22_82)
  rw [(own_nc rc2.1 rc2.2)] at W25
  have pre26 : Go p e bl T25 (mkF m 83 #[iv (3 : Int32), iv c0, iv c1, iv c2, iv c3] [(.ref b13), (.ref b9), (.ref b9)]) s1 EF := fun t k => pre24 t (st25 t k)
  have O27 : Old Z n0 h25 := O23.wr W25 g_b13
  have Z27 : n0 ≤ h25.size := Nat.le_trans Z23 (Keep.of_wr W25).1
  have K27 : Keep h0 h25 [] := K23.wr W25 (Or.inr sz_b13)
  have V25 : Arv Z h25 b13 k13 .char (3 : Int32) [(.int c0), (.int c1), (.int c2)] (.int (0 : Int32)) := Arv.set Ar25 q25 Sz25 M25 H25 G25 (own_fitc (own_nc rc2.1 rc2.2)) W25 2 rfl (Nat.le_of_ble_eq_true rfl)
  have N25 := Fr.snoc X25 N21 g_b13
  obtain ⟨_, _, ⟨T28, L28, k28, n28⟩, -, X28, ⟨Lc28, hQ28, l28, y28, z28⟩, st28⟩ := X25.specialBack hx (y := mN19) rfl hown (mvT hZ (hw _ (mW 10 rfl))) (mvT hZ (hw _ (mW 11 rfl))) (mvT hZ (hw _ (mW 12 rfl))) (by decide) (backOf (W := 1) (rmKj3 l Z a0 hw [] b9 b13 cz fv k13 c0 c1 c2 h25 n0 Z27 O27 J0 ((((A9.ext Et13).wr W17).wr W21).wr W25) g_b9 (Fld.other W25 (Fld.other W21 (Fld.other W17 (F_value_b9.ext Et13) (Or.inl ne_b9_b13)) (Or.inl ne_b9_b13)) (Or.inl ne_b9_b13)) (Fld.other W25 (Fld.other W21 (Fld.other W17 (F_coder_b9.ext Et13) (Or.inl ne_b9_b13)) (Or.inl ne_b9_b13)) (Or.inl ne_b9_b13)) V25 (List.forall_mem_cons.mpr ⟨rc0, (List.forall_mem_cons.mpr ⟨rc1, (List.forall_mem_cons.mpr ⟨rc2, (fun _ q => nomatch q)⟩)⟩)⟩)) hZ (hw _ (mW 12 rfl)) (hw _ (mW 8 rfl)) (by decide) (by decide)) (g := (mkF m 83 #[iv (3 : Int32), iv c0, iv c1, iv c2, iv c3] [(.ref b13), (.ref b9), (.ref b9)])) rfl (hM rfl) (Steps.refl _) (a := b9) (argsL := [(.ref b13)]) (rest := [(.ref b9)]) (lenOf pd14 rfl) rfl (Nat.le_of_eq rfl) (B d22_83) (fun _ _ => ⟨rfl, e25, wl rfl, wl rfl⟩)
  dsimp only [Pt.U, Pt.locs, Pt.cells, Pt.slots] at X28 l28 y28 z28 st28 hQ28
  subst l28 y28 z28
  obtain ⟨rfl, N28q, K28, SF28⟩ := hQ28
  have N28 := Fr.app N25 N28q
  have pre29 : Go p e bl T28 (mkF m 86 #[iv (3 : Int32), iv c0, iv c1, iv c2, iv c3] [(.ref b9)]) s1 EF := fun t k => pre26 t (st28.trans k)
  have O30 : Old Z n0 T28.heap := O27.keep K28 (allS g_b9 all0)
  have Z30 : n0 ≤ T28.heap.size := Nat.le_trans Z27 K28.1
  have K30 : Keep h0 T28.heap [] := K27.trans K28 (allS (Or.inr sz_b9) all0)
  exact fin1 X28 (v := some (.ref b9)) hrt hlk (wl rfl) (wl rfl) (by exact ⟨_, rfl, N28, K30, SF28⟩) (fun fs hr => hEF ▸ pre29 _ (retOut X28 hx Bd.returns rfl (Or.inr (Or.inr (Or.inr (Or.inr ⟨rfl, rfl, rfl⟩)))) (B d22_86) hr))
abbrev rKB4 : Room := { frames := 6, cells := 4, slots := 20, locals := 88 }
theorem d22_87 : decode method_3_code 87 = .ok (.new 7, 3) := by decide +kernel
theorem d22_90 : decode method_3_code 90 = .ok (.dup, 1) := by decide +kernel
theorem d22_91 : decode method_3_code 91 = .ok (.iconst 4, 1) := by decide +kernel
theorem d22_92 : decode method_3_code 92 = .ok (.newarray .char, 2) := by decide +kernel
theorem d22_94 : decode method_3_code 94 = .ok (.dup, 1) := by decide +kernel
theorem d22_95 : decode method_3_code 95 = .ok (.iconst 0, 1) := by decide +kernel
theorem d22_96 : decode method_3_code 96 = .ok (.iload_n 1, 1) := by decide +kernel
theorem d22_97 : decode method_3_code 97 = .ok (.castore, 1) := by decide +kernel
theorem d22_98 : decode method_3_code 98 = .ok (.dup, 1) := by decide +kernel
theorem d22_99 : decode method_3_code 99 = .ok (.iconst 1, 1) := by decide +kernel
theorem d22_100 : decode method_3_code 100 = .ok (.iload_n 2, 1) := by decide +kernel
theorem d22_101 : decode method_3_code 101 = .ok (.castore, 1) := by decide +kernel
theorem d22_102 : decode method_3_code 102 = .ok (.dup, 1) := by decide +kernel
theorem d22_103 : decode method_3_code 103 = .ok (.iconst 2, 1) := by decide +kernel
theorem d22_104 : decode method_3_code 104 = .ok (.iload_n 3, 1) := by decide +kernel
theorem d22_105 : decode method_3_code 105 = .ok (.castore, 1) := by decide +kernel
theorem d22_106 : decode method_3_code 106 = .ok (.dup, 1) := by decide +kernel
theorem d22_107 : decode method_3_code 107 = .ok (.iconst 3, 1) := by decide +kernel
theorem d22_108 : decode method_3_code 108 = .ok (.iload 4, 2) := by decide +kernel
theorem d22_110 : decode method_3_code 110 = .ok (.castore, 1) := by decide +kernel
theorem d22_111 : decode method_3_code 111 = .ok (.invokespecial 9, 3) := by decide +kernel
theorem d22_114 : decode method_3_code 114 = .ok (.areturn, 1) := by decide +kernel
theorem efB4 (m : MethodId) (c0 : Int32) (c1 : Int32) (c2 : Int32) (c3 : Int32) : entryFrame m #[(.int (4 : Int32)), (.int c0), (.int c1), (.int c2), (.int c3)] 5 = mkF m 0 #[iv (4 : Int32), iv c0, iv c1, iv c2, iv c3] [] := by first | (simp [entryFrame, mkF, argsToLocals, Value.category]; done) | rfl
def QB4 (Z : State) (c0 : Int32) (c1 : Int32) (c2 : Int32) (c3 : Int32) (cz : Int32) (fv : Value) (h0 : Heap) (n0 : Nat) (v : Option Value) (h : Heap) (L : List Loc) : Prop := ∃ b, v = some (.ref b) ∧ Fr n0 L ∧ Keep h0 h [] ∧ Str Z h b [c0, c1, c2, c3]
set_option maxRecDepth 65536 in
set_option maxHeartbeats 40000000 in
theorem rmB4 (l : Launch) (Z : State) (a0 : Array Value) (hw : HW a0 Z) (ws : List Jvm.Cond) (c0 : Int32) (c1 : Int32) (c2 : Int32) (c3 : Int32) (cz : Int32) (fv : Value) (h0 : Heap) (n0 : Nat) (Z0 : n0 ≤ h0.size) (O0 : Old Z n0 h0) (J0 : Jd Z cz fv) (rc0 : 0 ≤ c0.toInt ∧ c0.toInt < 65536) (rc1 : 0 ≤ c1.toInt ∧ c1.toInt < 65536) (rc2 : 0 ≤ c2.toInt ∧ c2.toInt < 65536) (rc3 : 0 ≤ c3.toInt ∧ c3.toInt < 65536) :
    MF l Z mN22 method_3_code 5 (some (.object "java/lang/String")) ws rKB4 #[(.int (4 : Int32)), (.int c0), (.int c1), (.int c2), (.int c3)] h0 (QB4 Z c0 c1 c2 c3 cz fv h0 n0) := by
  refine MetFree.of_bodySF (plainFor_of_name pn5) hisR ?_
  intro p e s m args bl meth c s1 Bd hml0 hP hK
  obtain ⟨rfl, hZ, hh⟩ := hP
  have hx := Bd.exec
  have hby := Bd.bytes
  have B := @hb c _ hby
  have hM := fun {n : Nat} (h : n = 5) => h.trans hml0.symm
  have hown : s.vm.findClass "com/example/oxpecker/oxpecker/http/HttpInputTokenEndPinLaw" = some m.cls := findClass_of_methodNamed Bd.named
  have hlk : meth.locks = false := BodyLoose.notSynchronized Bd
  have hrt : ∀ {v : Option Value}, meth.sig.returnType = none → v = none := fun h => by rw [Bd.returns] at h; cases h
  have X0 : Stand p l e rKB4 s m #[(.int (4 : Int32)), (.int c0), (.int c1), (.int c2), (.int c3)] bl meth c s1 [] 0 0 := Stand.of_body Bd
  have e0 : s1.heap = h0 := by rw [← hh, Bd.state]; rfl
  have N0 := Fr.nil n0
  obtain ⟨EF, hEF⟩ : ∃ f, f = entryFrame m #[(.int (4 : Int32)), (.int c0), (.int c1), (.int c2), (.int c3)] 5 := ⟨_, rfl⟩
  have pre0 : Go p e bl s1 (mkF m 0 #[iv (4 : Int32), iv c0, iv c1, iv c2, iv c3] []) s1 EF := fun t k => by rw [hEF]; exact castTop (efB4 m c0 c1 c2 c3) k
  have pre1 : Go p e bl s1 (mkF m 1 #[iv (4 : Int32), iv c0, iv c1, iv c2, iv c3] [(.int (4 : Int32))]) s1 EF := fun t k => pre0 t (by
   exact XS.iloadN X0.here hx rfl (B d22_0) rfl k)
  have pre2 : Go p e bl s1 (mkF m 15 #[iv (4 : Int32), iv c0, iv c1, iv c2, iv c3] []) s1 EF := fun t k => pre1 t (XS.ifYes X0.here hx rfl (pc0 := 1) (pc' := 15) rfl (B d22_1) rfl ((if0 _ _).trans (feq (by decide : ¬ ((4 : Int32) = (0 : Int32)))).2) (by decide) (by decide) k)
  have pre3 : Go p e bl s1 (mkF m 17 #[iv (4 : Int32), iv c0, iv c1, iv c2, iv c3] [(.int (1 : Int32)), (.int (4 : Int32))]) s1 EF := fun t k => pre2 t (by
   refine XS.iloadN X0.here hx rfl (B d22_15) rfl ?_
   exact XS.iconst X0.here hx rfl (B d22_16) k)
  have pre4 : Go p e bl s1 (mkF m 35 #[iv (4 : Int32), iv c0, iv c1, iv c2, iv c3] []) s1 EF := fun t k => pre3 t (XS.icmpYes X0.here hx rfl (pc0 := 17) (pc' := 35) rfl (B d22_17) rfl (feq (by decide : ¬ ((4 : Int32) = (1 : Int32)))).2 (by decide) (by decide) k)
  have pre5 : Go p e bl s1 (mkF m 37 #[iv (4 : Int32), iv c0, iv c1, iv c2, iv c3] [(.int (2 : Int32)), (.int (4 : Int32))]) s1 EF := fun t k => pre4 t (by
   refine XS.iloadN X0.here hx rfl (B d22_35) rfl ?_
   exact XS.iconst X0.here hx rfl (B d22_36) k)
  have pre6 : Go p e bl s1 (mkF m 59 #[iv (4 : Int32), iv c0, iv c1, iv c2, iv c3] []) s1 EF := fun t k => pre5 t (XS.icmpYes X0.here hx rfl (pc0 := 37) (pc' := 59) rfl (B d22_37) rfl (feq (by decide : ¬ ((4 : Int32) = (2 : Int32)))).2 (by decide) (by decide) k)
  have pre7 : Go p e bl s1 (mkF m 61 #[iv (4 : Int32), iv c0, iv c1, iv c2, iv c3] [(.int (3 : Int32)), (.int (4 : Int32))]) s1 EF := fun t k => pre6 t (by
   refine XS.iloadN X0.here hx rfl (B d22_59) rfl ?_
   exact XS.iconst X0.here hx rfl (B d22_60) k)
  have pre8 : Go p e bl s1 (mkF m 87 #[iv (4 : Int32), iv c0, iv c1, iv c2, iv c3] []) s1 EF := fun t k => pre7 t (XS.icmpYes X0.here hx rfl (pc0 := 61) (pc' := 87) rfl (B d22_61) rfl (feq (by decide : ¬ ((4 : Int32) = (3 : Int32)))).2 (by decide) (by decide) k)
  obtain ⟨T9, h9, X9, e9, Et9, A9, D9, U9, st9⟩ := newO X0 hx hZ hown (hw _ (mW 6 rfl)) (hw _ (mW 7 rfl)) (hw _ (mW 8 rfl)) e0 (g := (mkF m 87 #[iv (4 : Int32), iv c0, iv c1, iv c2, iv c3] [])) rfl (B d22_87) (by decide) (by decide)
  obtain ⟨b9, g9⟩ : ∃ z, z = h0.size := ⟨_, rfl⟩
  rw [← g9] at A9 st9 D9
  have g_b9 : n0 ≤ b9 := Nat.le_trans Z0 (Nat.le_of_eq g9.symm)
  have sz_b9 : h0.size ≤ b9 := Nat.le_trans (Keep.refl h0 []).1 (Nat.le_of_eq g9.symm)
  have pre10 : Go p e bl T9 (mkF m 90 #[iv (4 : Int32), iv c0, iv c1, iv c2, iv c3] [(.ref b9)]) s1 EF := fun t k => pre8 t (st9 t k)
  have O11 : Old Z n0 h9 := O0.ext Et9
  have Z11 : n0 ≤ h9.size := Nat.le_trans Z0 Et9.1
  have K11 : Keep h0 h9 [] := (Keep.refl h0 []).ext Et9
  have F_value_b9 : Fld Z h9 b9 "java/lang/String" "value" "[B" .null := D9 (Or.inr (hw _ (mW 22 rfl))) (ty := (.array .byte)) (by decide)
  have F_coder_b9 : Fld Z h9 b9 "java/lang/String" "coder" "B" (.int (0 : Int32)) := D9 (Or.inr (hw _ (mW 23 rfl))) (ty := .byte) (by decide)
  have pre12 : Go p e bl T9 (mkF m 92 #[iv (4 : Int32), iv c0, iv c1, iv c2, iv c3] [(.int (4 : Int32)), (.ref b9), (.ref b9)]) s1 EF := fun t k => pre10 t (by
   refine XS.dup X9.here hx rfl (B d22_90) rfl rfl ?_
   exact XS.iconst X9.here hx rfl (B d22_91) k)
  obtain ⟨T13, h13, k13, X13, e13, Et13, A13, st13⟩ := newP X9 hx hZ (hw _ (mW 9 rfl)) e9 (g := (mkF m 92 #[iv (4 : Int32), iv c0, iv c1, iv c2, iv c3] [(.int (4 : Int32)), (.ref b9), (.ref b9)])) rfl (B d22_92) rfl (by decide) (cap := 4) (by decide) (by decide) (by decide) (by decide)
  obtain ⟨b13, g13⟩ : ∃ z, z = h9.size := ⟨_, rfl⟩
  rw [← g13] at A13 st13
  have g_b13 : n0 ≤ b13 := Nat.le_trans Z11 (Nat.le_of_eq g13.symm)
  have sz_b13 : h0.size ≤ b13 := Nat.le_trans K11.1 (Nat.le_of_eq g13.symm)
  have ne_b9_b13 : b9 ≠ b13 := Nat.ne_of_lt (Nat.lt_of_lt_of_le A9.lt (Nat.le_of_eq g13.symm))
  have pre14 : Go p e bl T13 (mkF m 94 #[iv (4 : Int32), iv c0, iv c1, iv c2, iv c3] [(.ref b13), (.ref b9), (.ref b9)]) s1 EF := fun t k => pre12 t (st13 t k)
  have O15 : Old Z n0 h13 := O11.ext Et13
  have Z15 : n0 ≤ h13.size := Nat.le_trans Z11 Et13.1
  have K15 : Keep h0 h13 [] := K11.ext Et13
  have V13 : Arv Z h13 b13 k13 .char (4 : Int32) [(.int (0 : Int32)), (.int (0 : Int32)), (.int (0 : Int32)), (.int (0 : Int32))] (.int (0 : Int32)) := (Arv.new A13 (by decide)).pad (pad_rep [] (.int (0 : Int32)) 4)
  have pre16 : Go p e bl T13 (mkF m 97 #[iv (4 : Int32), iv c0, iv c1, iv c2, iv c3] [(.int c0), (.int (0 : Int32)), (.ref b13), (.ref b13), (.ref b9), (.ref b9)]) s1 EF := fun t k => pre14 t (by
   refine XS.dup X13.here hx rfl (B d22_94) rfl rfl ?_
   refine XS.iconst X13.here hx rfl (B d22_95) ?_
   exact XS.iloadN X13.here hx rfl (B d22_96) rfl k)
  obtain ⟨cl17, Ar17, q17, Sz17, M17, H17, G17⟩ := id V13
  have hin17 : ¬ ((0 : Int32) < 0 ∨ cl17.slots.size ≤ ((0 : Int32)).toNatClampNeg) := inb_of Sz17 ⟨by decide, by decide⟩
  obtain ⟨T17, h17, X17, e17, W17, st17⟩ := stC X13 hx hZ e13 Ar17 (j := (0 : Int32)) hin17 (g := (mkF m 97 #[iv (4 : Int32), iv c0, iv c1, iv c2, iv c3] [(.int c0), (.int (0 : Int32)), (.ref b13), (.ref b13), (.ref b9), (.ref b9)])) rfl rfl (B d22_97)
  rw [(own_nc rc0.1 rc0.2)] at W17
  have pre18 : Go p e bl T17 (mkF m 98 #[iv (4 : Int32), iv c0, iv c1, iv c2, iv c3] [(.ref b13), (.ref b9), (.ref b9)]) s1 EF := fun t k => pre16 t (st17 t k)
  have O19 : Old Z n0 h17 := O15.wr W17 g_b13
  have Z19 : n0 ≤ h17.size := Nat.le_trans Z15 (Keep.of_wr W17).1
  have K19 : Keep h0 h17 [] := K15.wr W17 (Or.inr sz_b13)
  have V17 : Arv Z h17 b13 k13 .char (4 : Int32) [(.int c0), (.int (0 : Int32)), (.int (0 : Int32)), (.int (0 : Int32))] (.int (0 : Int32)) := Arv.set Ar17 q17 Sz17 M17 H17 G17 (own_fitc (own_nc rc0.1 rc0.2)) W17 0 rfl (Nat.le_of_ble_eq_true rfl)
  have N17 := Fr.snoc X17 N0 g_b13
  have pre20 : Go p e bl T17 (mkF m 101 #[iv (4 : Int32), iv c0, iv c1, iv c2, iv c3] [(.int c1), (.int (1 : Int32)), (.ref b13), (.ref b13), (.ref b9), (.ref b9)]) s1 EF := fun t k => pre18 t (by
   refine XS.dup X17.here hx rfl (B d22_98) rfl rfl ?_
   refine XS.iconst X17.here hx rfl (B d22_99) ?_
   exact XS.iloadN X17.here hx rfl (B d22_100) rfl k)
  obtain ⟨cl21, Ar21, q21, Sz21, M21, H21, G21⟩ := id V17
  have hin21 : ¬ ((1 : Int32) < 0 ∨ cl21.slots.size ≤ ((1 : Int32)).toNatClampNeg) := inb_of Sz21 ⟨by decide, by decide⟩
  obtain ⟨T21, h21, X21, e21, W21, st21⟩ := stC X17 hx hZ e17 Ar21 (j := (1 : Int32)) hin21 (g := (mkF m 101 #[iv (4 : Int32), iv c0, iv c1, iv c2, iv c3] [(.int c1), (.int (1 : Int32)), (.ref b13), (.ref b13), (.ref b9), (.ref b9)])) rfl rfl (B d22_101)
  rw [(own_nc rc1.1 rc1.2)] at W21
  have pre22 : Go p e bl T21 (mkF m 102 #[iv (4 : Int32), iv c0, iv c1, iv c2, iv c3] [(.ref b13), (.ref b9), (.ref b9)]) s1 EF := fun t k => pre20 t (st21 t k)
  have O23 : Old Z n0 h21 := O19.wr W21 g_b13
  have Z23 : n0 ≤ h21.size := Nat.le_trans Z19 (Keep.of_wr W21).1
  have K23 : Keep h0 h21 [] := K19.wr W21 (Or.inr sz_b13)
  have V21 : Arv Z h21 b13 k13 .char (4 : Int32) [(.int c0), (.int c1), (.int (0 : Int32)), (.int (0 : Int32))] (.int (0 : Int32)) := Arv.set Ar21 q21 Sz21 M21 H21 G21 (own_fitc (own_nc rc1.1 rc1.2)) W21 1 rfl (Nat.le_of_ble_eq_true rfl)
  have N21 := Fr.snoc X21 N17 g_b13
  have pre24 : Go p e bl T21 (mkF m 105 #[iv (4 : Int32), iv c0, iv c1, iv c2, iv c3] [(.int c2), (.int (2 : Int32)), (.ref b13), (.ref b13), (.ref b9), (.ref b9)]) s1 EF := fun t k => pre22 t (by
   refine XS.dup X21.here hx rfl (B d22_102) rfl rfl ?_
   refine XS.iconst X21.here hx rfl (B d22_103) ?_
   exact XS.iloadN X21.here hx rfl (B d22_104) rfl k)
  obtain ⟨cl25, Ar25, q25, Sz25, M25, H25, G25⟩ := id V21
  have hin25 : ¬ ((2 : Int32) < 0 ∨ cl25.slots.size ≤ ((2 : Int32)).toNatClampNeg) := inb_of Sz25 ⟨by decide, by decide⟩
  obtain ⟨T25, h25, X25, e25, W25, st25⟩ := stC X21 hx hZ e21 Ar25 (j := (2 : Int32)) hin25 (g := (mkF m 105 #[iv (4 : Int32), iv c0, iv c1, iv c2, iv c3] [(.int c2), (.int (2 : Int32)), (.ref b13), (.ref b13), (.ref b9), (.ref b9)])) rfl rfl (B d22_105)
  rw [(own_nc rc2.1 rc2.2)] at W25
  have pre26 : Go p e bl T25 (mkF m 106 #[iv (4 : Int32), iv c0, iv c1, iv c2, iv c3] [(.ref b13), (.ref b9), (.ref b9)]) s1 EF := fun t k => pre24 t (st25 t k)
  have O27 : Old Z n0 h25 := O23.wr W25 g_b13
  have Z27 : n0 ≤ h25.size := Nat.le_trans Z23 (Keep.of_wr W25).1
  have K27 : Keep h0 h25 [] := K23.wr W25 (Or.inr sz_b13)
  have V25 : Arv Z h25 b13 k13 .char (4 : Int32) [(.int c0), (.int c1), (.int c2), (.int (0 : Int32))] (.int (0 : Int32)) := Arv.set Ar25 q25 Sz25 M25 H25 G25 (own_fitc (own_nc rc2.1 rc2.2)) W25 2 rfl (Nat.le_of_ble_eq_true rfl)
  have N25 := Fr.snoc X25 N21 g_b13
  have pre28 : Go p e bl T25 (mkF m 110 #[iv (4 : Int32), iv c0, iv c1, iv c2, iv c3] [(.int c3), (.int (3 : Int32)), (.ref b13), (.ref b13), (.ref b9), (.ref b9)]) s1 EF := fun t k => pre26 t (by
   refine XS.dup X25.here hx rfl (B d22_106) rfl rfl ?_
   refine XS.iconst X25.here hx rfl (B d22_107) ?_
   exact XS.iload X25.here hx rfl (B d22_108) rfl k)
  obtain ⟨cl29, Ar29, q29, Sz29, M29, H29, G29⟩ := id V25
  have hin29 : ¬ ((3 : Int32) < 0 ∨ cl29.slots.size ≤ ((3 : Int32)).toNatClampNeg) := inb_of Sz29 ⟨by decide, by decide⟩
  obtain ⟨T29, h29, X29, e29, W29, st29⟩ := stC X25 hx hZ e25 Ar29 (j := (3 : Int32)) hin29 (g := (mkF m 110 #[iv (4 : Int32), iv c0, iv c1, iv c2, iv c3] [(.int c3), (.int (3 : Int32)), (.ref b13), (.ref b13), (.ref b9), (.ref b9)])) rfl rfl (B d22_110)
  rw [(own_nc rc3.1 rc3.2)] at W29
  have pre30 : Go p e bl T29 (mkF m 111 #[iv (4 : Int32), iv c0, iv c1, iv c2, iv c3] [(.ref b13), (.ref b9), (.ref b9)]) s1 EF := fun t k => pre28 t (st29 t k)
  have O31 : Old Z n0 h29 := O27.wr W29 g_b13
  have Z31 : n0 ≤ h29.size := Nat.le_trans Z27 (Keep.of_wr W29).1
  have K31 : Keep h0 h29 [] := K27.wr W29 (Or.inr sz_b13)
  have V29 : Arv Z h29 b13 k13 .char (4 : Int32) [(.int c0), (.int c1), (.int c2), (.int c3)] (.int (0 : Int32)) := Arv.set Ar29 q29 Sz29 M29 H29 G29 (own_fitc (own_nc rc3.1 rc3.2)) W29 3 rfl (Nat.le_of_ble_eq_true rfl)
  have N29 := Fr.snoc X29 N25 g_b13
  obtain ⟨_, _, ⟨T32, L32, k32, n32⟩, -, X32, ⟨Lc32, hQ32, l32, y32, z32⟩, st32⟩ := X29.specialBack hx (y := mN19) rfl hown (mvT hZ (hw _ (mW 10 rfl))) (mvT hZ (hw _ (mW 11 rfl))) (mvT hZ (hw _ (mW 12 rfl))) (by decide) (backOf (W := 1) (rmKj4 l Z a0 hw [] b9 b13 cz fv k13 c0 c1 c2 c3 h29 n0 Z31 O31 J0 (((((A9.ext Et13).wr W17).wr W21).wr W25).wr W29) g_b9 (Fld.other W29 (Fld.other W25 (Fld.other W21 (Fld.other W17 (F_value_b9.ext Et13) (Or.inl ne_b9_b13)) (Or.inl ne_b9_b13)) (Or.inl ne_b9_b13)) (Or.inl ne_b9_b13)) (Fld.other W29 (Fld.other W25 (Fld.other W21 (Fld.other W17 (F_coder_b9.ext Et13) (Or.inl ne_b9_b13)) (Or.inl ne_b9_b13)) (Or.inl ne_b9_b13)) (Or.inl ne_b9_b13)) V29 (List.forall_mem_cons.mpr ⟨rc0, (List.forall_mem_cons.mpr ⟨rc1, (List.forall_mem_cons.mpr ⟨rc2, (List.forall_mem_cons.mpr ⟨rc3, (fun _ q => nomatch q)⟩)⟩)⟩)⟩)) hZ (hw _ (mW 12 rfl)) (hw _ (mW 8 rfl)) (by decide) (by decide)) (g := (mkF m 111 #[iv (4 : Int32), iv c0, iv c1, iv c2, iv c3] [(.ref b13), (.ref b9), (.ref b9)])) rfl (hM rfl) (Steps.refl _) (a := b9) (argsL := [(.ref b13)]) (rest := [(.ref b9)]) (lenOf pd14 rfl) rfl (Nat.le_of_eq rfl) (B d22_111) (fun _ _ => ⟨rfl, e29, wl rfl, wl rfl⟩)
  dsimp only [Pt.U, Pt.locs, Pt.cells, Pt.slots] at X32 l32 y32 z32 st32 hQ32
  subst l32 y32 z32
  obtain ⟨rfl, N32q, K32, SF32⟩ := hQ32
  have N32 := Fr.app N29 N32q
  have pre33 : Go p e bl T32 (mkF m 114 #[iv (4 : Int32), iv c0, iv c1, iv c2, iv c3] [(.ref b9)]) s1 EF := fun t k => pre30 t (st32.trans k)
  have O34 : Old Z n0 T32.heap := O31.keep K32 (allS g_b9 all0)
  have Z34 : n0 ≤ T32.heap.size := Nat.le_trans Z31 K32.1
  have K34 : Keep h0 T32.heap [] := K31.trans K32 (allS (Or.inr sz_b9) all0)
  exact fin1 X32 (v := some (.ref b9)) hrt hlk (wl rfl) (wl rfl) (by exact ⟨_, rfl, N32, K34, SF32⟩) (fun fs hr => hEF ▸ pre33 _ (retOut X32 hx Bd.returns rfl (Or.inr (Or.inr (Or.inr (Or.inr ⟨rfl, rfl, rfl⟩)))) (B d22_114) hr))
def stepF (i f c r : Int32) : Int32 := if i < f then r else if expF c = 0 then i else r
abbrev rKK0 : Room := { frames := 2, cells := 0, slots := 0, locals := 26 }
theorem d23_0 : decode prog_11_method_23_code 0 = .ok (.iload_n 1, 1) := by decide +kernel
theorem d23_1 : decode prog_11_method_23_code 1 = .ok (.istore_n 2, 1) := by decide +kernel
theorem d23_2 : decode prog_11_method_23_code 2 = .ok (.iload_n 2, 1) := by decide +kernel
theorem d23_3 : decode prog_11_method_23_code 3 = .ok (.aload_n 0, 1) := by decide +kernel
theorem d23_4 : decode prog_11_method_23_code 4 = .ok (.invokevirtual 161, 3) := by decide +kernel
theorem d23_7 : decode prog_11_method_23_code 7 = .ok (.if_icmp .ge 20, 3) := by decide +kernel
theorem d23_27 : decode prog_11_method_23_code 27 = .ok (.iload_n 2, 1) := by decide +kernel
theorem d23_28 : decode prog_11_method_23_code 28 = .ok (.ireturn, 1) := by decide +kernel
theorem pd15 : parseMethodDescriptor "()I" = some ⟨[], some .int⟩ := by decide +kernel
theorem efK0 (m : MethodId) (a1 : Addr) (p1 : Int32) : entryFrame m #[(.ref a1), (.int p1)] 3 = mkF m 0 #[rv a1, iv p1, .unset] [] := by first | (simp [entryFrame, mkF, argsToLocals, Value.category]; done) | rfl
def QK0 (Z : State) (a1 : Addr) (p1 : Int32) (cz : Int32) (fv : Value) (ta : Addr) (cl : Cell) (r : Int32) (h0 : Heap) (n0 : Nat) (v : Option Value) (h : Heap) (L : List Loc) : Prop := v = some (.int r) ∧ Fr n0 L ∧ h = h0
set_option maxRecDepth 65536 in
set_option maxHeartbeats 40000000 in
theorem rmK0 (l : Launch) (Z : State) (a0 : Array Value) (hw : HW a0 Z) (ws : List Jvm.Cond) (a1 : Addr) (p1 : Int32) (cz : Int32) (fv : Value) (ta : Addr) (cl : Cell) (r : Int32) (h0 : Heap) (n0 : Nat) (Z0 : n0 ≤ h0.size) (O0 : Old Z n0 h0) (J0 : Jd Z cz fv) (S0 : Sta Z Z.heap "com/example/oxpecker/oxpecker/http/HttpInput" "TOKEN" "[Z" (.ref ta)) (TB : Tab Z Z.heap ta cl .boolean 128) (HT : ∀ j : Int32, ¬ j < 0 → j < 128 → atv cl j = expF j) (SF : Str Z h0 a1 []) (hp : p1 = 0 ∨ p1 = 1 ∨ p1 = 2 ∨ p1 = 3 ∨ p1 = 4 ∨ p1 = 5) (hR : (if p1 < (0 : Int32) then 0 else p1) = r) :
    MF l Z mN23 prog_11_method_23_code 3 (some .int) ws rKK0 #[(.ref a1), (.int p1)] h0 (QK0 Z a1 p1 cz fv ta cl r h0 n0) := by
  refine MetFree.of_bodySF (plainFor_of_name pn4) hisR ?_
  intro p e s m args bl meth c s1 Bd hml0 hP hK
  obtain ⟨rfl, hZ, hh⟩ := hP
  have hx := Bd.exec
  have hby := Bd.bytes
  have B := @hb c _ hby
  have hM := fun {n : Nat} (h : n = 3) => h.trans hml0.symm
  have hown : s.vm.findClass "com/example/oxpecker/oxpecker/http/HttpInput" = some m.cls := findClass_of_methodNamed Bd.named
  have hlk : meth.locks = false := BodyLoose.notSynchronized Bd
  have hrt : ∀ {v : Option Value}, meth.sig.returnType = none → v = none := fun h => by rw [Bd.returns] at h; cases h
  have X0 : Stand p l e rKK0 s m #[(.ref a1), (.int p1)] bl meth c s1 [] 0 0 := Stand.of_body Bd
  have e0 : s1.heap = h0 := by rw [← hh, Bd.state]; rfl
  have N0 := Fr.nil n0
  obtain ⟨EF, hEF⟩ : ∃ f, f = entryFrame m #[(.ref a1), (.int p1)] 3 := ⟨_, rfl⟩
  have pre0 : Go p e bl s1 (mkF m 0 #[rv a1, iv p1, .unset] []) s1 EF := fun t k => by rw [hEF]; exact castTop (efK0 m a1 p1) k
  have pre1 : Go p e bl s1 (mkF m 1 #[rv a1, iv p1, .unset] [(.int p1)]) s1 EF := fun t k => pre0 t (by
   exact XS.iloadN X0.here hx rfl (B d23_0) rfl k)
  rcases hp with hv2_0 | hv2_1 | hv2_2 | hv2_3 | hv2_4 | hv2_5
  · have pre3 : Go p e bl s1 (mkF m 4 #[rv a1, iv p1, iv (0 : Int32)] [(.ref a1), (.int (0 : Int32))]) s1 EF := fun t k => pre1 t (by
     refine XS.istoreN X0.here hx rfl (B d23_1) rfl (l' := #[rv a1, iv p1, iv (0 : Int32)]) (by rw [hv2_0]; rfl) ?_
     refine XS.iloadN X0.here hx rfl (B d23_2) rfl ?_
     exact XS.aloadN X0.here hx rfl (B d23_3) rfl rfl k)
    obtain ⟨cq4, kq4, q4a, q4b, q4c⟩ := isOf hZ e0 SF.exa
    obtain ⟨_, _, ⟨T4, L4, k4, n4⟩, -, X4, ⟨Lc4, hQ4, l4, y4, z4⟩, st4⟩ := X0.virtualBack hx (y := mN1) (z := mN1) hown (mvT hZ (hw _ (mW 32 rfl))) (mvT hZ (hw _ (mW 33 rfl))) (notFace_of_selects (args := #[]) (mvT hZ (hw _ (mW 35 rfl)))) (mvT hZ (hw _ (mW 35 rfl))) (mvT hZ (hw _ (mW 34 rfl))) (by decide) (backOf (W := 1) (rmJL l Z a0 hw [] a1 cz fv [] (0 : Int32) h0 n0 Z0 O0 J0 SF (by rfl)) hZ (hw _ (mW 36 rfl)) (hw _ (mW 8 rfl)) (by decide) (by decide)) q4a q4c (g := (mkF m 4 #[rv a1, iv p1, iv (0 : Int32)] [(.ref a1), (.int (0 : Int32))])) rfl (hM rfl) (Steps.refl _) (argsL := []) (rest := [(.int (0 : Int32))]) (lenOf pd15 rfl) rfl (Nat.le_of_eq rfl) (B d23_4) (fun _ _ => ⟨rfl, e0, wl rfl, wl rfl⟩)
    dsimp only [Pt.U, Pt.locs, Pt.cells, Pt.slots] at X4 l4 y4 z4 st4 hQ4
    subst l4 y4 z4
    obtain ⟨rfl, N4q, hq4⟩ := hQ4
    have N4 := Fr.app N0 N4q
    have pre5 : Go p e bl T4 (mkF m 7 #[rv a1, iv p1, iv (0 : Int32)] [(.int (0 : Int32)), (.int (0 : Int32))]) s1 EF := fun t k => pre3 t (st4.trans k)
    have e4 : T4.heap = h0 := hq4
    have pre6 : Go p e bl T4 (mkF m 27 #[rv a1, iv p1, iv (0 : Int32)] []) s1 EF := fun t k => pre5 t (XS.icmpYes X4.here hx rfl (pc0 := 7) (pc' := 27) rfl (B d23_7) rfl (flt (by decide : ¬ ((0 : Int32) < (0 : Int32)))).2.1 (by decide) (by decide) k)
    have pre7 : Go p e bl T4 (mkF m 28 #[rv a1, iv p1, iv (0 : Int32)] [(.int (0 : Int32))]) s1 EF := fun t k => pre6 t (by
     exact XS.iloadN X4.here hx rfl (B d23_27) rfl k)
    exact fin1 X4 (v := some (.int (0 : Int32))) hrt hlk (wl rfl) (wl rfl) (by rw [e4]; exact ⟨by rw [← hR]; simp +decide [stepF, hv2_0], N4, rfl⟩) (fun fs hr => hEF ▸ pre7 _ (retOut X4 hx Bd.returns rfl (Or.inl ⟨rfl, Or.inl rfl, _, rfl⟩) (B d23_28) hr))
  · have pre8 : Go p e bl s1 (mkF m 4 #[rv a1, iv p1, iv (1 : Int32)] [(.ref a1), (.int (1 : Int32))]) s1 EF := fun t k => pre1 t (by
     refine XS.istoreN X0.here hx rfl (B d23_1) rfl (l' := #[rv a1, iv p1, iv (1 : Int32)]) (by rw [hv2_1]; rfl) ?_
     refine XS.iloadN X0.here hx rfl (B d23_2) rfl ?_
     exact XS.aloadN X0.here hx rfl (B d23_3) rfl rfl k)
    obtain ⟨cq9, kq9, q9a, q9b, q9c⟩ := isOf hZ e0 SF.exa
    obtain ⟨_, _, ⟨T9, L9, k9, n9⟩, -, X9, ⟨Lc9, hQ9, l9, y9, z9⟩, st9⟩ := X0.virtualBack hx (y := mN1) (z := mN1) hown (mvT hZ (hw _ (mW 32 rfl))) (mvT hZ (hw _ (mW 33 rfl))) (notFace_of_selects (args := #[]) (mvT hZ (hw _ (mW 35 rfl)))) (mvT hZ (hw _ (mW 35 rfl))) (mvT hZ (hw _ (mW 34 rfl))) (by decide) (backOf (W := 1) (rmJL l Z a0 hw [] a1 cz fv [] (0 : Int32) h0 n0 Z0 O0 J0 SF (by rfl)) hZ (hw _ (mW 36 rfl)) (hw _ (mW 8 rfl)) (by decide) (by decide)) q9a q9c (g := (mkF m 4 #[rv a1, iv p1, iv (1 : Int32)] [(.ref a1), (.int (1 : Int32))])) rfl (hM rfl) (Steps.refl _) (argsL := []) (rest := [(.int (1 : Int32))]) (lenOf pd15 rfl) rfl (Nat.le_of_eq rfl) (B d23_4) (fun _ _ => ⟨rfl, e0, wl rfl, wl rfl⟩)
    dsimp only [Pt.U, Pt.locs, Pt.cells, Pt.slots] at X9 l9 y9 z9 st9 hQ9
    subst l9 y9 z9
    obtain ⟨rfl, N9q, hq9⟩ := hQ9
    have N9 := Fr.app N0 N9q
    have pre10 : Go p e bl T9 (mkF m 7 #[rv a1, iv p1, iv (1 : Int32)] [(.int (0 : Int32)), (.int (1 : Int32))]) s1 EF := fun t k => pre8 t (st9.trans k)
    have e9 : T9.heap = h0 := hq9
    have pre11 : Go p e bl T9 (mkF m 27 #[rv a1, iv p1, iv (1 : Int32)] []) s1 EF := fun t k => pre10 t (XS.icmpYes X9.here hx rfl (pc0 := 7) (pc' := 27) rfl (B d23_7) rfl (flt (by decide : ¬ ((1 : Int32) < (0 : Int32)))).2.1 (by decide) (by decide) k)
    have pre12 : Go p e bl T9 (mkF m 28 #[rv a1, iv p1, iv (1 : Int32)] [(.int (1 : Int32))]) s1 EF := fun t k => pre11 t (by
     exact XS.iloadN X9.here hx rfl (B d23_27) rfl k)
    exact fin1 X9 (v := some (.int (1 : Int32))) hrt hlk (wl rfl) (wl rfl) (by rw [e9]; exact ⟨by rw [← hR]; simp +decide [stepF, hv2_1], N9, rfl⟩) (fun fs hr => hEF ▸ pre12 _ (retOut X9 hx Bd.returns rfl (Or.inl ⟨rfl, Or.inl rfl, _, rfl⟩) (B d23_28) hr))
  · have pre13 : Go p e bl s1 (mkF m 4 #[rv a1, iv p1, iv (2 : Int32)] [(.ref a1), (.int (2 : Int32))]) s1 EF := fun t k => pre1 t (by
     refine XS.istoreN X0.here hx rfl (B d23_1) rfl (l' := #[rv a1, iv p1, iv (2 : Int32)]) (by rw [hv2_2]; rfl) ?_
     refine XS.iloadN X0.here hx rfl (B d23_2) rfl ?_
     exact XS.aloadN X0.here hx rfl (B d23_3) rfl rfl k)
    obtain ⟨cq14, kq14, q14a, q14b, q14c⟩ := isOf hZ e0 SF.exa
    obtain ⟨_, _, ⟨T14, L14, k14, n14⟩, -, X14, ⟨Lc14, hQ14, l14, y14, z14⟩, st14⟩ := X0.virtualBack hx (y := mN1) (z := mN1) hown (mvT hZ (hw _ (mW 32 rfl))) (mvT hZ (hw _ (mW 33 rfl))) (notFace_of_selects (args := #[]) (mvT hZ (hw _ (mW 35 rfl)))) (mvT hZ (hw _ (mW 35 rfl))) (mvT hZ (hw _ (mW 34 rfl))) (by decide) (backOf (W := 1) (rmJL l Z a0 hw [] a1 cz fv [] (0 : Int32) h0 n0 Z0 O0 J0 SF (by rfl)) hZ (hw _ (mW 36 rfl)) (hw _ (mW 8 rfl)) (by decide) (by decide)) q14a q14c (g := (mkF m 4 #[rv a1, iv p1, iv (2 : Int32)] [(.ref a1), (.int (2 : Int32))])) rfl (hM rfl) (Steps.refl _) (argsL := []) (rest := [(.int (2 : Int32))]) (lenOf pd15 rfl) rfl (Nat.le_of_eq rfl) (B d23_4) (fun _ _ => ⟨rfl, e0, wl rfl, wl rfl⟩)
    dsimp only [Pt.U, Pt.locs, Pt.cells, Pt.slots] at X14 l14 y14 z14 st14 hQ14
    subst l14 y14 z14
    obtain ⟨rfl, N14q, hq14⟩ := hQ14
    have N14 := Fr.app N0 N14q
    have pre15 : Go p e bl T14 (mkF m 7 #[rv a1, iv p1, iv (2 : Int32)] [(.int (0 : Int32)), (.int (2 : Int32))]) s1 EF := fun t k => pre13 t (st14.trans k)
    have e14 : T14.heap = h0 := hq14
    have pre16 : Go p e bl T14 (mkF m 27 #[rv a1, iv p1, iv (2 : Int32)] []) s1 EF := fun t k => pre15 t (XS.icmpYes X14.here hx rfl (pc0 := 7) (pc' := 27) rfl (B d23_7) rfl (flt (by decide : ¬ ((2 : Int32) < (0 : Int32)))).2.1 (by decide) (by decide) k)
    have pre17 : Go p e bl T14 (mkF m 28 #[rv a1, iv p1, iv (2 : Int32)] [(.int (2 : Int32))]) s1 EF := fun t k => pre16 t (by
     exact XS.iloadN X14.here hx rfl (B d23_27) rfl k)
    exact fin1 X14 (v := some (.int (2 : Int32))) hrt hlk (wl rfl) (wl rfl) (by rw [e14]; exact ⟨by rw [← hR]; simp +decide [stepF, hv2_2], N14, rfl⟩) (fun fs hr => hEF ▸ pre17 _ (retOut X14 hx Bd.returns rfl (Or.inl ⟨rfl, Or.inl rfl, _, rfl⟩) (B d23_28) hr))
  · have pre18 : Go p e bl s1 (mkF m 4 #[rv a1, iv p1, iv (3 : Int32)] [(.ref a1), (.int (3 : Int32))]) s1 EF := fun t k => pre1 t (by
     refine XS.istoreN X0.here hx rfl (B d23_1) rfl (l' := #[rv a1, iv p1, iv (3 : Int32)]) (by rw [hv2_3]; rfl) ?_
     refine XS.iloadN X0.here hx rfl (B d23_2) rfl ?_
     exact XS.aloadN X0.here hx rfl (B d23_3) rfl rfl k)
    obtain ⟨cq19, kq19, q19a, q19b, q19c⟩ := isOf hZ e0 SF.exa
    obtain ⟨_, _, ⟨T19, L19, k19, n19⟩, -, X19, ⟨Lc19, hQ19, l19, y19, z19⟩, st19⟩ := X0.virtualBack hx (y := mN1) (z := mN1) hown (mvT hZ (hw _ (mW 32 rfl))) (mvT hZ (hw _ (mW 33 rfl))) (notFace_of_selects (args := #[]) (mvT hZ (hw _ (mW 35 rfl)))) (mvT hZ (hw _ (mW 35 rfl))) (mvT hZ (hw _ (mW 34 rfl))) (by decide) (backOf (W := 1) (rmJL l Z a0 hw [] a1 cz fv [] (0 : Int32) h0 n0 Z0 O0 J0 SF (by rfl)) hZ (hw _ (mW 36 rfl)) (hw _ (mW 8 rfl)) (by decide) (by decide)) q19a q19c (g := (mkF m 4 #[rv a1, iv p1, iv (3 : Int32)] [(.ref a1), (.int (3 : Int32))])) rfl (hM rfl) (Steps.refl _) (argsL := []) (rest := [(.int (3 : Int32))]) (lenOf pd15 rfl) rfl (Nat.le_of_eq rfl) (B d23_4) (fun _ _ => ⟨rfl, e0, wl rfl, wl rfl⟩)
    dsimp only [Pt.U, Pt.locs, Pt.cells, Pt.slots] at X19 l19 y19 z19 st19 hQ19
    subst l19 y19 z19
    obtain ⟨rfl, N19q, hq19⟩ := hQ19
    have N19 := Fr.app N0 N19q
    have pre20 : Go p e bl T19 (mkF m 7 #[rv a1, iv p1, iv (3 : Int32)] [(.int (0 : Int32)), (.int (3 : Int32))]) s1 EF := fun t k => pre18 t (st19.trans k)
    have e19 : T19.heap = h0 := hq19
    have pre21 : Go p e bl T19 (mkF m 27 #[rv a1, iv p1, iv (3 : Int32)] []) s1 EF := fun t k => pre20 t (XS.icmpYes X19.here hx rfl (pc0 := 7) (pc' := 27) rfl (B d23_7) rfl (flt (by decide : ¬ ((3 : Int32) < (0 : Int32)))).2.1 (by decide) (by decide) k)
    have pre22 : Go p e bl T19 (mkF m 28 #[rv a1, iv p1, iv (3 : Int32)] [(.int (3 : Int32))]) s1 EF := fun t k => pre21 t (by
     exact XS.iloadN X19.here hx rfl (B d23_27) rfl k)
    exact fin1 X19 (v := some (.int (3 : Int32))) hrt hlk (wl rfl) (wl rfl) (by rw [e19]; exact ⟨by rw [← hR]; simp +decide [stepF, hv2_3], N19, rfl⟩) (fun fs hr => hEF ▸ pre22 _ (retOut X19 hx Bd.returns rfl (Or.inl ⟨rfl, Or.inl rfl, _, rfl⟩) (B d23_28) hr))
  · have pre23 : Go p e bl s1 (mkF m 4 #[rv a1, iv p1, iv (4 : Int32)] [(.ref a1), (.int (4 : Int32))]) s1 EF := fun t k => pre1 t (by
     refine XS.istoreN X0.here hx rfl (B d23_1) rfl (l' := #[rv a1, iv p1, iv (4 : Int32)]) (by rw [hv2_4]; rfl) ?_
     refine XS.iloadN X0.here hx rfl (B d23_2) rfl ?_
     exact XS.aloadN X0.here hx rfl (B d23_3) rfl rfl k)
    obtain ⟨cq24, kq24, q24a, q24b, q24c⟩ := isOf hZ e0 SF.exa
    obtain ⟨_, _, ⟨T24, L24, k24, n24⟩, -, X24, ⟨Lc24, hQ24, l24, y24, z24⟩, st24⟩ := X0.virtualBack hx (y := mN1) (z := mN1) hown (mvT hZ (hw _ (mW 32 rfl))) (mvT hZ (hw _ (mW 33 rfl))) (notFace_of_selects (args := #[]) (mvT hZ (hw _ (mW 35 rfl)))) (mvT hZ (hw _ (mW 35 rfl))) (mvT hZ (hw _ (mW 34 rfl))) (by decide) (backOf (W := 1) (rmJL l Z a0 hw [] a1 cz fv [] (0 : Int32) h0 n0 Z0 O0 J0 SF (by rfl)) hZ (hw _ (mW 36 rfl)) (hw _ (mW 8 rfl)) (by decide) (by decide)) q24a q24c (g := (mkF m 4 #[rv a1, iv p1, iv (4 : Int32)] [(.ref a1), (.int (4 : Int32))])) rfl (hM rfl) (Steps.refl _) (argsL := []) (rest := [(.int (4 : Int32))]) (lenOf pd15 rfl) rfl (Nat.le_of_eq rfl) (B d23_4) (fun _ _ => ⟨rfl, e0, wl rfl, wl rfl⟩)
    dsimp only [Pt.U, Pt.locs, Pt.cells, Pt.slots] at X24 l24 y24 z24 st24 hQ24
    subst l24 y24 z24
    obtain ⟨rfl, N24q, hq24⟩ := hQ24
    have N24 := Fr.app N0 N24q
    have pre25 : Go p e bl T24 (mkF m 7 #[rv a1, iv p1, iv (4 : Int32)] [(.int (0 : Int32)), (.int (4 : Int32))]) s1 EF := fun t k => pre23 t (st24.trans k)
    have e24 : T24.heap = h0 := hq24
    have pre26 : Go p e bl T24 (mkF m 27 #[rv a1, iv p1, iv (4 : Int32)] []) s1 EF := fun t k => pre25 t (XS.icmpYes X24.here hx rfl (pc0 := 7) (pc' := 27) rfl (B d23_7) rfl (flt (by decide : ¬ ((4 : Int32) < (0 : Int32)))).2.1 (by decide) (by decide) k)
    have pre27 : Go p e bl T24 (mkF m 28 #[rv a1, iv p1, iv (4 : Int32)] [(.int (4 : Int32))]) s1 EF := fun t k => pre26 t (by
     exact XS.iloadN X24.here hx rfl (B d23_27) rfl k)
    exact fin1 X24 (v := some (.int (4 : Int32))) hrt hlk (wl rfl) (wl rfl) (by rw [e24]; exact ⟨by rw [← hR]; simp +decide [stepF, hv2_4], N24, rfl⟩) (fun fs hr => hEF ▸ pre27 _ (retOut X24 hx Bd.returns rfl (Or.inl ⟨rfl, Or.inl rfl, _, rfl⟩) (B d23_28) hr))
  have pre28 : Go p e bl s1 (mkF m 4 #[rv a1, iv p1, iv (5 : Int32)] [(.ref a1), (.int (5 : Int32))]) s1 EF := fun t k => pre1 t (by
   refine XS.istoreN X0.here hx rfl (B d23_1) rfl (l' := #[rv a1, iv p1, iv (5 : Int32)]) (by rw [hv2_5]; rfl) ?_
   refine XS.iloadN X0.here hx rfl (B d23_2) rfl ?_
   exact XS.aloadN X0.here hx rfl (B d23_3) rfl rfl k)
  obtain ⟨cq29, kq29, q29a, q29b, q29c⟩ := isOf hZ e0 SF.exa
  obtain ⟨_, _, ⟨T29, L29, k29, n29⟩, -, X29, ⟨Lc29, hQ29, l29, y29, z29⟩, st29⟩ := X0.virtualBack hx (y := mN1) (z := mN1) hown (mvT hZ (hw _ (mW 32 rfl))) (mvT hZ (hw _ (mW 33 rfl))) (notFace_of_selects (args := #[]) (mvT hZ (hw _ (mW 35 rfl)))) (mvT hZ (hw _ (mW 35 rfl))) (mvT hZ (hw _ (mW 34 rfl))) (by decide) (backOf (W := 1) (rmJL l Z a0 hw [] a1 cz fv [] (0 : Int32) h0 n0 Z0 O0 J0 SF (by rfl)) hZ (hw _ (mW 36 rfl)) (hw _ (mW 8 rfl)) (by decide) (by decide)) q29a q29c (g := (mkF m 4 #[rv a1, iv p1, iv (5 : Int32)] [(.ref a1), (.int (5 : Int32))])) rfl (hM rfl) (Steps.refl _) (argsL := []) (rest := [(.int (5 : Int32))]) (lenOf pd15 rfl) rfl (Nat.le_of_eq rfl) (B d23_4) (fun _ _ => ⟨rfl, e0, wl rfl, wl rfl⟩)
  dsimp only [Pt.U, Pt.locs, Pt.cells, Pt.slots] at X29 l29 y29 z29 st29 hQ29
  subst l29 y29 z29
  obtain ⟨rfl, N29q, hq29⟩ := hQ29
  have N29 := Fr.app N0 N29q
  have pre30 : Go p e bl T29 (mkF m 7 #[rv a1, iv p1, iv (5 : Int32)] [(.int (0 : Int32)), (.int (5 : Int32))]) s1 EF := fun t k => pre28 t (st29.trans k)
  have e29 : T29.heap = h0 := hq29
  have pre31 : Go p e bl T29 (mkF m 27 #[rv a1, iv p1, iv (5 : Int32)] []) s1 EF := fun t k => pre30 t (XS.icmpYes X29.here hx rfl (pc0 := 7) (pc' := 27) rfl (B d23_7) rfl (flt (by decide : ¬ ((5 : Int32) < (0 : Int32)))).2.1 (by decide) (by decide) k)
  have pre32 : Go p e bl T29 (mkF m 28 #[rv a1, iv p1, iv (5 : Int32)] [(.int (5 : Int32))]) s1 EF := fun t k => pre31 t (by
   exact XS.iloadN X29.here hx rfl (B d23_27) rfl k)
  exact fin1 X29 (v := some (.int (5 : Int32))) hrt hlk (wl rfl) (wl rfl) (by rw [e29]; exact ⟨by rw [← hR]; simp +decide [stepF, hv2_5], N29, rfl⟩) (fun fs hr => hEF ▸ pre32 _ (retOut X29 hx Bd.returns rfl (Or.inl ⟨rfl, Or.inl rfl, _, rfl⟩) (B d23_28) hr))
abbrev rKK1 : Room := { frames := 5, cells := 0, slots := 0, locals := 66 }
theorem d23_10 : decode prog_11_method_23_code 10 = .ok (.aload_n 0, 1) := by decide +kernel
theorem d23_11 : decode prog_11_method_23_code 11 = .ok (.iload_n 2, 1) := by decide +kernel
theorem d23_12 : decode prog_11_method_23_code 12 = .ok (.invokevirtual 164, 3) := by decide +kernel
theorem d23_15 : decode prog_11_method_23_code 15 = .ok (.invokestatic 86, 3) := by decide +kernel
theorem d23_18 : decode prog_11_method_23_code 18 = .ok (.ifCond .eq 9, 3) := by decide +kernel
theorem d23_21 : decode prog_11_method_23_code 21 = .ok (.iinc 2 1, 3) := by decide +kernel
theorem d23_24 : decode prog_11_method_23_code 24 = .ok (.goto (-22), 3) := by decide +kernel
theorem pd16 : parseMethodDescriptor "(I)C" = some ⟨[.int], some .char⟩ := by decide +kernel
theorem pd17 : parseMethodDescriptor "(I)Z" = some ⟨[.int], some .boolean⟩ := by decide +kernel
theorem efK1 (m : MethodId) (a1 : Addr) (p1 : Int32) : entryFrame m #[(.ref a1), (.int p1)] 3 = mkF m 0 #[rv a1, iv p1, .unset] [] := by first | (simp [entryFrame, mkF, argsToLocals, Value.category]; done) | rfl
def QK1 (Z : State) (a1 : Addr) (p1 : Int32) (cz : Int32) (fv : Value) (ta : Addr) (cl : Cell) (c0 : Int32) (r : Int32) (h0 : Heap) (n0 : Nat) (v : Option Value) (h : Heap) (L : List Loc) : Prop := v = some (.int r) ∧ Fr n0 L ∧ h = h0
set_option maxRecDepth 65536 in
set_option maxHeartbeats 40000000 in
theorem rmK1 (l : Launch) (Z : State) (a0 : Array Value) (hw : HW a0 Z) (ws : List Jvm.Cond) (a1 : Addr) (p1 : Int32) (cz : Int32) (fv : Value) (ta : Addr) (cl : Cell) (c0 : Int32) (r : Int32) (h0 : Heap) (n0 : Nat) (Z0 : n0 ≤ h0.size) (O0 : Old Z n0 h0) (J0 : Jd Z cz fv) (S0 : Sta Z Z.heap "com/example/oxpecker/oxpecker/http/HttpInput" "TOKEN" "[Z" (.ref ta)) (TB : Tab Z Z.heap ta cl .boolean 128) (HT : ∀ j : Int32, ¬ j < 0 → j < 128 → atv cl j = expF j) (SF : Str Z h0 a1 [c0]) (hp : p1 = 0 ∨ p1 = 1 ∨ p1 = 2 ∨ p1 = 3 ∨ p1 = 4 ∨ p1 = 5) (hR : (if p1 < (1 : Int32) then stepF 0 p1 c0 (1) else p1) = r) :
    MF l Z mN23 prog_11_method_23_code 3 (some .int) ws rKK1 #[(.ref a1), (.int p1)] h0 (QK1 Z a1 p1 cz fv ta cl c0 r h0 n0) := by
  refine MetFree.of_bodySF (plainFor_of_name pn4) hisR ?_
  intro p e s m args bl meth c s1 Bd hml0 hP hK
  obtain ⟨rfl, hZ, hh⟩ := hP
  have hx := Bd.exec
  have hby := Bd.bytes
  have B := @hb c _ hby
  have hM := fun {n : Nat} (h : n = 3) => h.trans hml0.symm
  have hown : s.vm.findClass "com/example/oxpecker/oxpecker/http/HttpInput" = some m.cls := findClass_of_methodNamed Bd.named
  have hlk : meth.locks = false := BodyLoose.notSynchronized Bd
  have hrt : ∀ {v : Option Value}, meth.sig.returnType = none → v = none := fun h => by rw [Bd.returns] at h; cases h
  have X0 : Stand p l e rKK1 s m #[(.ref a1), (.int p1)] bl meth c s1 [] 0 0 := Stand.of_body Bd
  have e0 : s1.heap = h0 := by rw [← hh, Bd.state]; rfl
  have N0 := Fr.nil n0
  obtain ⟨EF, hEF⟩ : ∃ f, f = entryFrame m #[(.ref a1), (.int p1)] 3 := ⟨_, rfl⟩
  have pre0 : Go p e bl s1 (mkF m 0 #[rv a1, iv p1, .unset] []) s1 EF := fun t k => by rw [hEF]; exact castTop (efK1 m a1 p1) k
  have pre1 : Go p e bl s1 (mkF m 1 #[rv a1, iv p1, .unset] [(.int p1)]) s1 EF := fun t k => pre0 t (by
   exact XS.iloadN X0.here hx rfl (B d23_0) rfl k)
  rcases hp with hv2_0 | hv2_1 | hv2_2 | hv2_3 | hv2_4 | hv2_5
  · have pre3 : Go p e bl s1 (mkF m 4 #[rv a1, iv p1, iv (0 : Int32)] [(.ref a1), (.int (0 : Int32))]) s1 EF := fun t k => pre1 t (by
     refine XS.istoreN X0.here hx rfl (B d23_1) rfl (l' := #[rv a1, iv p1, iv (0 : Int32)]) (by rw [hv2_0]; rfl) ?_
     refine XS.iloadN X0.here hx rfl (B d23_2) rfl ?_
     exact XS.aloadN X0.here hx rfl (B d23_3) rfl rfl k)
    obtain ⟨cq4, kq4, q4a, q4b, q4c⟩ := isOf hZ e0 SF.exa
    obtain ⟨_, _, ⟨T4, L4, k4, n4⟩, -, X4, ⟨Lc4, hQ4, l4, y4, z4⟩, st4⟩ := X0.virtualBack hx (y := mN1) (z := mN1) hown (mvT hZ (hw _ (mW 32 rfl))) (mvT hZ (hw _ (mW 33 rfl))) (notFace_of_selects (args := #[]) (mvT hZ (hw _ (mW 35 rfl)))) (mvT hZ (hw _ (mW 35 rfl))) (mvT hZ (hw _ (mW 34 rfl))) (by decide) (backOf (W := 1) (rmJL l Z a0 hw [] a1 cz fv [c0] (1 : Int32) h0 n0 Z0 O0 J0 SF (by rfl)) hZ (hw _ (mW 36 rfl)) (hw _ (mW 8 rfl)) (by decide) (by decide)) q4a q4c (g := (mkF m 4 #[rv a1, iv p1, iv (0 : Int32)] [(.ref a1), (.int (0 : Int32))])) rfl (hM rfl) (Steps.refl _) (argsL := []) (rest := [(.int (0 : Int32))]) (lenOf pd15 rfl) rfl (Nat.le_of_eq rfl) (B d23_4) (fun _ _ => ⟨rfl, e0, wl rfl, wl rfl⟩)
    dsimp only [Pt.U, Pt.locs, Pt.cells, Pt.slots] at X4 l4 y4 z4 st4 hQ4
    subst l4 y4 z4
    obtain ⟨rfl, N4q, hq4⟩ := hQ4
    have N4 := Fr.app N0 N4q
    have pre5 : Go p e bl T4 (mkF m 7 #[rv a1, iv p1, iv (0 : Int32)] [(.int (1 : Int32)), (.int (0 : Int32))]) s1 EF := fun t k => pre3 t (st4.trans k)
    have e4 : T4.heap = h0 := hq4
    have pre6 : Go p e bl T4 (mkF m 10 #[rv a1, iv p1, iv (0 : Int32)] []) s1 EF := fun t k => pre5 t (XS.icmpNo X4.here hx rfl (B d23_7) rfl (tlt (by decide : (0 : Int32) < (1 : Int32))).2.1 k)
    have pre7 : Go p e bl T4 (mkF m 12 #[rv a1, iv p1, iv (0 : Int32)] [(.int (0 : Int32)), (.ref a1)]) s1 EF := fun t k => pre6 t (by
     refine XS.aloadN X4.here hx rfl (B d23_10) rfl rfl ?_
     exact XS.iloadN X4.here hx rfl (B d23_11) rfl k)
    obtain ⟨cq8, kq8, q8a, q8b, q8c⟩ := isOf hZ e4 SF.exa
    obtain ⟨_, _, ⟨T8, L8, k8, n8⟩, -, X8, ⟨Lc8, hQ8, l8, y8, z8⟩, st8⟩ := X4.virtualBack hx (y := mN10) (z := mN10) hown (mvT hZ (hw _ (mW 56 rfl))) (mvT hZ (hw _ (mW 57 rfl))) (notFace_of_selects (args := #[]) (mvT hZ (hw _ (mW 59 rfl)))) (mvT hZ (hw _ (mW 59 rfl))) (mvT hZ (hw _ (mW 58 rfl))) (by decide) (backOf (W := 0) (rmJC l Z a0 hw [] a1 (0 : Int32) cz fv [c0] c0 h0 n0 Z0 O0 J0 SF (by decide) rfl) hZ (hw _ (mW 60 rfl)) (hw _ (mW 8 rfl)) (by decide) (by decide)) q8a q8c (g := (mkF m 12 #[rv a1, iv p1, iv (0 : Int32)] [(.int (0 : Int32)), (.ref a1)])) rfl (hM rfl) (Steps.refl _) (argsL := [(.int (0 : Int32))]) (rest := []) (lenOf pd16 rfl) rfl (Nat.le_of_eq rfl) (B d23_12) (fun _ _ => ⟨rfl, e4, wl rfl, wl rfl⟩)
    dsimp only [Pt.U, Pt.locs, Pt.cells, Pt.slots] at X8 l8 y8 z8 st8 hQ8
    subst l8 y8 z8
    obtain ⟨rfl, N8q, hq8⟩ := hQ8
    have N8 := Fr.app N4 N8q
    have pre9 : Go p e bl T8 (mkF m 15 #[rv a1, iv p1, iv (0 : Int32)] [(.int c0)]) s1 EF := fun t k => pre7 t (st8.trans k)
    have e8 : T8.heap = h0 := hq8
    obtain ⟨_, _, ⟨T10, L10, k10, n10⟩, -, X10, ⟨Lc10, hQ10, l10, y10, z10⟩, st10⟩ := Jvm.LawKit.callS X8 hx (y := mN20) hown (mvT hZ (hw _ (mW 78 rfl))) (mvT hZ (hw _ (mW 79 rfl))) (mvT hZ (hw _ (mW 30 rfl))) (mvT hZ (hw _ (mW 80 rfl))) (by decide) (backOf (W := 0) (rmT l Z a0 hw [] c0 ta cl (expF c0) h0 n0 Z0 (S0.ext O0.2) (TB.ext O0.2) (own_eq cl HT c0)) hZ (hw _ (mW 80 rfl)) (hw _ (mW 30 rfl)) (by decide) (by decide)) (g := (mkF m 15 #[rv a1, iv p1, iv (0 : Int32)] [(.int c0)])) rfl (hM rfl) (argsL := [(.int c0)]) (rest := []) (lenOf pd17 rfl) rfl (Nat.le_of_eq rfl) (B d23_15) (fun _ _ => ⟨rfl, e8, wl rfl, wl rfl⟩)
    dsimp only [Pt.U, Pt.locs, Pt.cells, Pt.slots] at X10 l10 y10 z10 st10 hQ10
    subst l10 y10 z10
    obtain ⟨rfl, N10q, hq10⟩ := hQ10
    have N10 := Fr.app N8 N10q
    have pre11 : Go p e bl T10 (mkF m 18 #[rv a1, iv p1, iv (0 : Int32)] [(.int (expF c0))]) s1 EF := fun t k => pre9 t (st10 t k)
    have e10 : T10.heap = h0 := hq10
    by_cases hc18 : (expF c0) = (0 : Int32)
    · have pre12 : Go p e bl T10 (mkF m 27 #[rv a1, iv p1, iv (0 : Int32)] []) s1 EF := fun t k => pre11 t (XS.ifYes X10.here hx rfl (pc0 := 18) (pc' := 27) rfl (B d23_18) rfl ((if0 _ _).trans (teq hc18).1) (by decide) (by decide) k)
      have pre13 : Go p e bl T10 (mkF m 28 #[rv a1, iv p1, iv (0 : Int32)] [(.int (0 : Int32))]) s1 EF := fun t k => pre12 t (by
       exact XS.iloadN X10.here hx rfl (B d23_27) rfl k)
      exact fin1 X10 (v := some (.int (0 : Int32))) hrt hlk (wl rfl) (wl rfl) (by rw [e10]; exact ⟨by rw [← hR]; simp +decide [stepF, hv2_0, hc18], N10, rfl⟩) (fun fs hr => hEF ▸ pre13 _ (retOut X10 hx Bd.returns rfl (Or.inl ⟨rfl, Or.inl rfl, _, rfl⟩) (B d23_28) hr))
    have pre14 : Go p e bl T10 (mkF m 21 #[rv a1, iv p1, iv (0 : Int32)] []) s1 EF := fun t k => pre11 t (XS.ifNo X10.here hx rfl (B d23_18) rfl ((if0 _ _).trans (feq hc18).1) k)
    have pre15 : Go p e bl T10 (mkF m 4 #[rv a1, iv p1, iv (1 : Int32)] [(.ref a1), (.int (1 : Int32))]) s1 EF := fun t k => pre14 t (by
     refine XS.iinc X10.here hx rfl (B d23_21) rfl (l' := #[rv a1, iv p1, iv (1 : Int32)]) rfl ?_
     refine XS.goto X10.here hx rfl (pc0 := 24) (pc' := 2) rfl (B d23_24) (by decide) (by decide) ?_
     refine XS.iloadN X10.here hx rfl (B d23_2) rfl ?_
     exact XS.aloadN X10.here hx rfl (B d23_3) rfl rfl k)
    obtain ⟨cq16, kq16, q16a, q16b, q16c⟩ := isOf hZ e10 SF.exa
    obtain ⟨_, _, ⟨T16, L16, k16, n16⟩, -, X16, ⟨Lc16, hQ16, l16, y16, z16⟩, st16⟩ := X10.virtualBack hx (y := mN1) (z := mN1) hown (mvT hZ (hw _ (mW 32 rfl))) (mvT hZ (hw _ (mW 33 rfl))) (notFace_of_selects (args := #[]) (mvT hZ (hw _ (mW 35 rfl)))) (mvT hZ (hw _ (mW 35 rfl))) (mvT hZ (hw _ (mW 34 rfl))) (by decide) (backOf (W := 1) (rmJL l Z a0 hw [] a1 cz fv [c0] (1 : Int32) h0 n0 Z0 O0 J0 SF (by rfl)) hZ (hw _ (mW 36 rfl)) (hw _ (mW 8 rfl)) (by decide) (by decide)) q16a q16c (g := (mkF m 4 #[rv a1, iv p1, iv (1 : Int32)] [(.ref a1), (.int (1 : Int32))])) rfl (hM rfl) (Steps.refl _) (argsL := []) (rest := [(.int (1 : Int32))]) (lenOf pd15 rfl) rfl (Nat.le_of_eq rfl) (B d23_4) (fun _ _ => ⟨rfl, e10, wl rfl, wl rfl⟩)
    dsimp only [Pt.U, Pt.locs, Pt.cells, Pt.slots] at X16 l16 y16 z16 st16 hQ16
    subst l16 y16 z16
    obtain ⟨rfl, N16q, hq16⟩ := hQ16
    have N16 := Fr.app N10 N16q
    have pre17 : Go p e bl T16 (mkF m 7 #[rv a1, iv p1, iv (1 : Int32)] [(.int (1 : Int32)), (.int (1 : Int32))]) s1 EF := fun t k => pre15 t (st16.trans k)
    have e16 : T16.heap = h0 := hq16
    have pre18 : Go p e bl T16 (mkF m 27 #[rv a1, iv p1, iv (1 : Int32)] []) s1 EF := fun t k => pre17 t (XS.icmpYes X16.here hx rfl (pc0 := 7) (pc' := 27) rfl (B d23_7) rfl (flt (by decide : ¬ ((1 : Int32) < (1 : Int32)))).2.1 (by decide) (by decide) k)
    have pre19 : Go p e bl T16 (mkF m 28 #[rv a1, iv p1, iv (1 : Int32)] [(.int (1 : Int32))]) s1 EF := fun t k => pre18 t (by
     exact XS.iloadN X16.here hx rfl (B d23_27) rfl k)
    exact fin1 X16 (v := some (.int (1 : Int32))) hrt hlk (wl rfl) (wl rfl) (by rw [e16]; exact ⟨by rw [← hR]; simp +decide [stepF, hv2_0, hc18], N16, rfl⟩) (fun fs hr => hEF ▸ pre19 _ (retOut X16 hx Bd.returns rfl (Or.inl ⟨rfl, Or.inl rfl, _, rfl⟩) (B d23_28) hr))
  · have pre20 : Go p e bl s1 (mkF m 4 #[rv a1, iv p1, iv (1 : Int32)] [(.ref a1), (.int (1 : Int32))]) s1 EF := fun t k => pre1 t (by
     refine XS.istoreN X0.here hx rfl (B d23_1) rfl (l' := #[rv a1, iv p1, iv (1 : Int32)]) (by rw [hv2_1]; rfl) ?_
     refine XS.iloadN X0.here hx rfl (B d23_2) rfl ?_
     exact XS.aloadN X0.here hx rfl (B d23_3) rfl rfl k)
    obtain ⟨cq21, kq21, q21a, q21b, q21c⟩ := isOf hZ e0 SF.exa
    obtain ⟨_, _, ⟨T21, L21, k21, n21⟩, -, X21, ⟨Lc21, hQ21, l21, y21, z21⟩, st21⟩ := X0.virtualBack hx (y := mN1) (z := mN1) hown (mvT hZ (hw _ (mW 32 rfl))) (mvT hZ (hw _ (mW 33 rfl))) (notFace_of_selects (args := #[]) (mvT hZ (hw _ (mW 35 rfl)))) (mvT hZ (hw _ (mW 35 rfl))) (mvT hZ (hw _ (mW 34 rfl))) (by decide) (backOf (W := 1) (rmJL l Z a0 hw [] a1 cz fv [c0] (1 : Int32) h0 n0 Z0 O0 J0 SF (by rfl)) hZ (hw _ (mW 36 rfl)) (hw _ (mW 8 rfl)) (by decide) (by decide)) q21a q21c (g := (mkF m 4 #[rv a1, iv p1, iv (1 : Int32)] [(.ref a1), (.int (1 : Int32))])) rfl (hM rfl) (Steps.refl _) (argsL := []) (rest := [(.int (1 : Int32))]) (lenOf pd15 rfl) rfl (Nat.le_of_eq rfl) (B d23_4) (fun _ _ => ⟨rfl, e0, wl rfl, wl rfl⟩)
    dsimp only [Pt.U, Pt.locs, Pt.cells, Pt.slots] at X21 l21 y21 z21 st21 hQ21
    subst l21 y21 z21
    obtain ⟨rfl, N21q, hq21⟩ := hQ21
    have N21 := Fr.app N0 N21q
    have pre22 : Go p e bl T21 (mkF m 7 #[rv a1, iv p1, iv (1 : Int32)] [(.int (1 : Int32)), (.int (1 : Int32))]) s1 EF := fun t k => pre20 t (st21.trans k)
    have e21 : T21.heap = h0 := hq21
    have pre23 : Go p e bl T21 (mkF m 27 #[rv a1, iv p1, iv (1 : Int32)] []) s1 EF := fun t k => pre22 t (XS.icmpYes X21.here hx rfl (pc0 := 7) (pc' := 27) rfl (B d23_7) rfl (flt (by decide : ¬ ((1 : Int32) < (1 : Int32)))).2.1 (by decide) (by decide) k)
    have pre24 : Go p e bl T21 (mkF m 28 #[rv a1, iv p1, iv (1 : Int32)] [(.int (1 : Int32))]) s1 EF := fun t k => pre23 t (by
     exact XS.iloadN X21.here hx rfl (B d23_27) rfl k)
    exact fin1 X21 (v := some (.int (1 : Int32))) hrt hlk (wl rfl) (wl rfl) (by rw [e21]; exact ⟨by rw [← hR]; simp +decide [stepF, hv2_1], N21, rfl⟩) (fun fs hr => hEF ▸ pre24 _ (retOut X21 hx Bd.returns rfl (Or.inl ⟨rfl, Or.inl rfl, _, rfl⟩) (B d23_28) hr))
  · have pre25 : Go p e bl s1 (mkF m 4 #[rv a1, iv p1, iv (2 : Int32)] [(.ref a1), (.int (2 : Int32))]) s1 EF := fun t k => pre1 t (by
     refine XS.istoreN X0.here hx rfl (B d23_1) rfl (l' := #[rv a1, iv p1, iv (2 : Int32)]) (by rw [hv2_2]; rfl) ?_
     refine XS.iloadN X0.here hx rfl (B d23_2) rfl ?_
     exact XS.aloadN X0.here hx rfl (B d23_3) rfl rfl k)
    obtain ⟨cq26, kq26, q26a, q26b, q26c⟩ := isOf hZ e0 SF.exa
    obtain ⟨_, _, ⟨T26, L26, k26, n26⟩, -, X26, ⟨Lc26, hQ26, l26, y26, z26⟩, st26⟩ := X0.virtualBack hx (y := mN1) (z := mN1) hown (mvT hZ (hw _ (mW 32 rfl))) (mvT hZ (hw _ (mW 33 rfl))) (notFace_of_selects (args := #[]) (mvT hZ (hw _ (mW 35 rfl)))) (mvT hZ (hw _ (mW 35 rfl))) (mvT hZ (hw _ (mW 34 rfl))) (by decide) (backOf (W := 1) (rmJL l Z a0 hw [] a1 cz fv [c0] (1 : Int32) h0 n0 Z0 O0 J0 SF (by rfl)) hZ (hw _ (mW 36 rfl)) (hw _ (mW 8 rfl)) (by decide) (by decide)) q26a q26c (g := (mkF m 4 #[rv a1, iv p1, iv (2 : Int32)] [(.ref a1), (.int (2 : Int32))])) rfl (hM rfl) (Steps.refl _) (argsL := []) (rest := [(.int (2 : Int32))]) (lenOf pd15 rfl) rfl (Nat.le_of_eq rfl) (B d23_4) (fun _ _ => ⟨rfl, e0, wl rfl, wl rfl⟩)
    dsimp only [Pt.U, Pt.locs, Pt.cells, Pt.slots] at X26 l26 y26 z26 st26 hQ26
    subst l26 y26 z26
    obtain ⟨rfl, N26q, hq26⟩ := hQ26
    have N26 := Fr.app N0 N26q
    have pre27 : Go p e bl T26 (mkF m 7 #[rv a1, iv p1, iv (2 : Int32)] [(.int (1 : Int32)), (.int (2 : Int32))]) s1 EF := fun t k => pre25 t (st26.trans k)
    have e26 : T26.heap = h0 := hq26
    have pre28 : Go p e bl T26 (mkF m 27 #[rv a1, iv p1, iv (2 : Int32)] []) s1 EF := fun t k => pre27 t (XS.icmpYes X26.here hx rfl (pc0 := 7) (pc' := 27) rfl (B d23_7) rfl (flt (by decide : ¬ ((2 : Int32) < (1 : Int32)))).2.1 (by decide) (by decide) k)
    have pre29 : Go p e bl T26 (mkF m 28 #[rv a1, iv p1, iv (2 : Int32)] [(.int (2 : Int32))]) s1 EF := fun t k => pre28 t (by
     exact XS.iloadN X26.here hx rfl (B d23_27) rfl k)
    exact fin1 X26 (v := some (.int (2 : Int32))) hrt hlk (wl rfl) (wl rfl) (by rw [e26]; exact ⟨by rw [← hR]; simp +decide [stepF, hv2_2], N26, rfl⟩) (fun fs hr => hEF ▸ pre29 _ (retOut X26 hx Bd.returns rfl (Or.inl ⟨rfl, Or.inl rfl, _, rfl⟩) (B d23_28) hr))
  · have pre30 : Go p e bl s1 (mkF m 4 #[rv a1, iv p1, iv (3 : Int32)] [(.ref a1), (.int (3 : Int32))]) s1 EF := fun t k => pre1 t (by
     refine XS.istoreN X0.here hx rfl (B d23_1) rfl (l' := #[rv a1, iv p1, iv (3 : Int32)]) (by rw [hv2_3]; rfl) ?_
     refine XS.iloadN X0.here hx rfl (B d23_2) rfl ?_
     exact XS.aloadN X0.here hx rfl (B d23_3) rfl rfl k)
    obtain ⟨cq31, kq31, q31a, q31b, q31c⟩ := isOf hZ e0 SF.exa
    obtain ⟨_, _, ⟨T31, L31, k31, n31⟩, -, X31, ⟨Lc31, hQ31, l31, y31, z31⟩, st31⟩ := X0.virtualBack hx (y := mN1) (z := mN1) hown (mvT hZ (hw _ (mW 32 rfl))) (mvT hZ (hw _ (mW 33 rfl))) (notFace_of_selects (args := #[]) (mvT hZ (hw _ (mW 35 rfl)))) (mvT hZ (hw _ (mW 35 rfl))) (mvT hZ (hw _ (mW 34 rfl))) (by decide) (backOf (W := 1) (rmJL l Z a0 hw [] a1 cz fv [c0] (1 : Int32) h0 n0 Z0 O0 J0 SF (by rfl)) hZ (hw _ (mW 36 rfl)) (hw _ (mW 8 rfl)) (by decide) (by decide)) q31a q31c (g := (mkF m 4 #[rv a1, iv p1, iv (3 : Int32)] [(.ref a1), (.int (3 : Int32))])) rfl (hM rfl) (Steps.refl _) (argsL := []) (rest := [(.int (3 : Int32))]) (lenOf pd15 rfl) rfl (Nat.le_of_eq rfl) (B d23_4) (fun _ _ => ⟨rfl, e0, wl rfl, wl rfl⟩)
    dsimp only [Pt.U, Pt.locs, Pt.cells, Pt.slots] at X31 l31 y31 z31 st31 hQ31
    subst l31 y31 z31
    obtain ⟨rfl, N31q, hq31⟩ := hQ31
    have N31 := Fr.app N0 N31q
    have pre32 : Go p e bl T31 (mkF m 7 #[rv a1, iv p1, iv (3 : Int32)] [(.int (1 : Int32)), (.int (3 : Int32))]) s1 EF := fun t k => pre30 t (st31.trans k)
    have e31 : T31.heap = h0 := hq31
    have pre33 : Go p e bl T31 (mkF m 27 #[rv a1, iv p1, iv (3 : Int32)] []) s1 EF := fun t k => pre32 t (XS.icmpYes X31.here hx rfl (pc0 := 7) (pc' := 27) rfl (B d23_7) rfl (flt (by decide : ¬ ((3 : Int32) < (1 : Int32)))).2.1 (by decide) (by decide) k)
    have pre34 : Go p e bl T31 (mkF m 28 #[rv a1, iv p1, iv (3 : Int32)] [(.int (3 : Int32))]) s1 EF := fun t k => pre33 t (by
     exact XS.iloadN X31.here hx rfl (B d23_27) rfl k)
    exact fin1 X31 (v := some (.int (3 : Int32))) hrt hlk (wl rfl) (wl rfl) (by rw [e31]; exact ⟨by rw [← hR]; simp +decide [stepF, hv2_3], N31, rfl⟩) (fun fs hr => hEF ▸ pre34 _ (retOut X31 hx Bd.returns rfl (Or.inl ⟨rfl, Or.inl rfl, _, rfl⟩) (B d23_28) hr))
  · have pre35 : Go p e bl s1 (mkF m 4 #[rv a1, iv p1, iv (4 : Int32)] [(.ref a1), (.int (4 : Int32))]) s1 EF := fun t k => pre1 t (by
     refine XS.istoreN X0.here hx rfl (B d23_1) rfl (l' := #[rv a1, iv p1, iv (4 : Int32)]) (by rw [hv2_4]; rfl) ?_
     refine XS.iloadN X0.here hx rfl (B d23_2) rfl ?_
     exact XS.aloadN X0.here hx rfl (B d23_3) rfl rfl k)
    obtain ⟨cq36, kq36, q36a, q36b, q36c⟩ := isOf hZ e0 SF.exa
    obtain ⟨_, _, ⟨T36, L36, k36, n36⟩, -, X36, ⟨Lc36, hQ36, l36, y36, z36⟩, st36⟩ := X0.virtualBack hx (y := mN1) (z := mN1) hown (mvT hZ (hw _ (mW 32 rfl))) (mvT hZ (hw _ (mW 33 rfl))) (notFace_of_selects (args := #[]) (mvT hZ (hw _ (mW 35 rfl)))) (mvT hZ (hw _ (mW 35 rfl))) (mvT hZ (hw _ (mW 34 rfl))) (by decide) (backOf (W := 1) (rmJL l Z a0 hw [] a1 cz fv [c0] (1 : Int32) h0 n0 Z0 O0 J0 SF (by rfl)) hZ (hw _ (mW 36 rfl)) (hw _ (mW 8 rfl)) (by decide) (by decide)) q36a q36c (g := (mkF m 4 #[rv a1, iv p1, iv (4 : Int32)] [(.ref a1), (.int (4 : Int32))])) rfl (hM rfl) (Steps.refl _) (argsL := []) (rest := [(.int (4 : Int32))]) (lenOf pd15 rfl) rfl (Nat.le_of_eq rfl) (B d23_4) (fun _ _ => ⟨rfl, e0, wl rfl, wl rfl⟩)
    dsimp only [Pt.U, Pt.locs, Pt.cells, Pt.slots] at X36 l36 y36 z36 st36 hQ36
    subst l36 y36 z36
    obtain ⟨rfl, N36q, hq36⟩ := hQ36
    have N36 := Fr.app N0 N36q
    have pre37 : Go p e bl T36 (mkF m 7 #[rv a1, iv p1, iv (4 : Int32)] [(.int (1 : Int32)), (.int (4 : Int32))]) s1 EF := fun t k => pre35 t (st36.trans k)
    have e36 : T36.heap = h0 := hq36
    have pre38 : Go p e bl T36 (mkF m 27 #[rv a1, iv p1, iv (4 : Int32)] []) s1 EF := fun t k => pre37 t (XS.icmpYes X36.here hx rfl (pc0 := 7) (pc' := 27) rfl (B d23_7) rfl (flt (by decide : ¬ ((4 : Int32) < (1 : Int32)))).2.1 (by decide) (by decide) k)
    have pre39 : Go p e bl T36 (mkF m 28 #[rv a1, iv p1, iv (4 : Int32)] [(.int (4 : Int32))]) s1 EF := fun t k => pre38 t (by
     exact XS.iloadN X36.here hx rfl (B d23_27) rfl k)
    exact fin1 X36 (v := some (.int (4 : Int32))) hrt hlk (wl rfl) (wl rfl) (by rw [e36]; exact ⟨by rw [← hR]; simp +decide [stepF, hv2_4], N36, rfl⟩) (fun fs hr => hEF ▸ pre39 _ (retOut X36 hx Bd.returns rfl (Or.inl ⟨rfl, Or.inl rfl, _, rfl⟩) (B d23_28) hr))
  have pre40 : Go p e bl s1 (mkF m 4 #[rv a1, iv p1, iv (5 : Int32)] [(.ref a1), (.int (5 : Int32))]) s1 EF := fun t k => pre1 t (by
   refine XS.istoreN X0.here hx rfl (B d23_1) rfl (l' := #[rv a1, iv p1, iv (5 : Int32)]) (by rw [hv2_5]; rfl) ?_
   refine XS.iloadN X0.here hx rfl (B d23_2) rfl ?_
   exact XS.aloadN X0.here hx rfl (B d23_3) rfl rfl k)
  obtain ⟨cq41, kq41, q41a, q41b, q41c⟩ := isOf hZ e0 SF.exa
  obtain ⟨_, _, ⟨T41, L41, k41, n41⟩, -, X41, ⟨Lc41, hQ41, l41, y41, z41⟩, st41⟩ := X0.virtualBack hx (y := mN1) (z := mN1) hown (mvT hZ (hw _ (mW 32 rfl))) (mvT hZ (hw _ (mW 33 rfl))) (notFace_of_selects (args := #[]) (mvT hZ (hw _ (mW 35 rfl)))) (mvT hZ (hw _ (mW 35 rfl))) (mvT hZ (hw _ (mW 34 rfl))) (by decide) (backOf (W := 1) (rmJL l Z a0 hw [] a1 cz fv [c0] (1 : Int32) h0 n0 Z0 O0 J0 SF (by rfl)) hZ (hw _ (mW 36 rfl)) (hw _ (mW 8 rfl)) (by decide) (by decide)) q41a q41c (g := (mkF m 4 #[rv a1, iv p1, iv (5 : Int32)] [(.ref a1), (.int (5 : Int32))])) rfl (hM rfl) (Steps.refl _) (argsL := []) (rest := [(.int (5 : Int32))]) (lenOf pd15 rfl) rfl (Nat.le_of_eq rfl) (B d23_4) (fun _ _ => ⟨rfl, e0, wl rfl, wl rfl⟩)
  dsimp only [Pt.U, Pt.locs, Pt.cells, Pt.slots] at X41 l41 y41 z41 st41 hQ41
  subst l41 y41 z41
  obtain ⟨rfl, N41q, hq41⟩ := hQ41
  have N41 := Fr.app N0 N41q
  have pre42 : Go p e bl T41 (mkF m 7 #[rv a1, iv p1, iv (5 : Int32)] [(.int (1 : Int32)), (.int (5 : Int32))]) s1 EF := fun t k => pre40 t (st41.trans k)
  have e41 : T41.heap = h0 := hq41
  have pre43 : Go p e bl T41 (mkF m 27 #[rv a1, iv p1, iv (5 : Int32)] []) s1 EF := fun t k => pre42 t (XS.icmpYes X41.here hx rfl (pc0 := 7) (pc' := 27) rfl (B d23_7) rfl (flt (by decide : ¬ ((5 : Int32) < (1 : Int32)))).2.1 (by decide) (by decide) k)
  have pre44 : Go p e bl T41 (mkF m 28 #[rv a1, iv p1, iv (5 : Int32)] [(.int (5 : Int32))]) s1 EF := fun t k => pre43 t (by
   exact XS.iloadN X41.here hx rfl (B d23_27) rfl k)
  exact fin1 X41 (v := some (.int (5 : Int32))) hrt hlk (wl rfl) (wl rfl) (by rw [e41]; exact ⟨by rw [← hR]; simp +decide [stepF, hv2_5], N41, rfl⟩) (fun fs hr => hEF ▸ pre44 _ (retOut X41 hx Bd.returns rfl (Or.inl ⟨rfl, Or.inl rfl, _, rfl⟩) (B d23_28) hr))
abbrev rKK2 : Room := { frames := 5, cells := 0, slots := 0, locals := 66 }
theorem efK2 (m : MethodId) (a1 : Addr) (p1 : Int32) : entryFrame m #[(.ref a1), (.int p1)] 3 = mkF m 0 #[rv a1, iv p1, .unset] [] := by first | (simp [entryFrame, mkF, argsToLocals, Value.category]; done) | rfl
def QK2 (Z : State) (a1 : Addr) (p1 : Int32) (cz : Int32) (fv : Value) (ta : Addr) (cl : Cell) (c0 : Int32) (c1 : Int32) (r : Int32) (h0 : Heap) (n0 : Nat) (v : Option Value) (h : Heap) (L : List Loc) : Prop := v = some (.int r) ∧ Fr n0 L ∧ h = h0
set_option maxRecDepth 65536 in
set_option maxHeartbeats 40000000 in
theorem rmK2 (l : Launch) (Z : State) (a0 : Array Value) (hw : HW a0 Z) (ws : List Jvm.Cond) (a1 : Addr) (p1 : Int32) (cz : Int32) (fv : Value) (ta : Addr) (cl : Cell) (c0 : Int32) (c1 : Int32) (r : Int32) (h0 : Heap) (n0 : Nat) (Z0 : n0 ≤ h0.size) (O0 : Old Z n0 h0) (J0 : Jd Z cz fv) (S0 : Sta Z Z.heap "com/example/oxpecker/oxpecker/http/HttpInput" "TOKEN" "[Z" (.ref ta)) (TB : Tab Z Z.heap ta cl .boolean 128) (HT : ∀ j : Int32, ¬ j < 0 → j < 128 → atv cl j = expF j) (SF : Str Z h0 a1 [c0, c1]) (hp : p1 = 0 ∨ p1 = 1 ∨ p1 = 2 ∨ p1 = 3 ∨ p1 = 4 ∨ p1 = 5) (hR : (if p1 < (2 : Int32) then stepF 0 p1 c0 (stepF 1 p1 c1 (2)) else p1) = r) :
    MF l Z mN23 prog_11_method_23_code 3 (some .int) ws rKK2 #[(.ref a1), (.int p1)] h0 (QK2 Z a1 p1 cz fv ta cl c0 c1 r h0 n0) := by
  refine MetFree.of_bodySF (plainFor_of_name pn4) hisR ?_
  intro p e s m args bl meth c s1 Bd hml0 hP hK
  obtain ⟨rfl, hZ, hh⟩ := hP
  have hx := Bd.exec
  have hby := Bd.bytes
  have B := @hb c _ hby
  have hM := fun {n : Nat} (h : n = 3) => h.trans hml0.symm
  have hown : s.vm.findClass "com/example/oxpecker/oxpecker/http/HttpInput" = some m.cls := findClass_of_methodNamed Bd.named
  have hlk : meth.locks = false := BodyLoose.notSynchronized Bd
  have hrt : ∀ {v : Option Value}, meth.sig.returnType = none → v = none := fun h => by rw [Bd.returns] at h; cases h
  have X0 : Stand p l e rKK2 s m #[(.ref a1), (.int p1)] bl meth c s1 [] 0 0 := Stand.of_body Bd
  have e0 : s1.heap = h0 := by rw [← hh, Bd.state]; rfl
  have N0 := Fr.nil n0
  obtain ⟨EF, hEF⟩ : ∃ f, f = entryFrame m #[(.ref a1), (.int p1)] 3 := ⟨_, rfl⟩
  have pre0 : Go p e bl s1 (mkF m 0 #[rv a1, iv p1, .unset] []) s1 EF := fun t k => by rw [hEF]; exact castTop (efK2 m a1 p1) k
  have pre1 : Go p e bl s1 (mkF m 1 #[rv a1, iv p1, .unset] [(.int p1)]) s1 EF := fun t k => pre0 t (by
   exact XS.iloadN X0.here hx rfl (B d23_0) rfl k)
  rcases hp with hv2_0 | hv2_1 | hv2_2 | hv2_3 | hv2_4 | hv2_5
  · have pre3 : Go p e bl s1 (mkF m 4 #[rv a1, iv p1, iv (0 : Int32)] [(.ref a1), (.int (0 : Int32))]) s1 EF := fun t k => pre1 t (by
     refine XS.istoreN X0.here hx rfl (B d23_1) rfl (l' := #[rv a1, iv p1, iv (0 : Int32)]) (by rw [hv2_0]; rfl) ?_
     refine XS.iloadN X0.here hx rfl (B d23_2) rfl ?_
     exact XS.aloadN X0.here hx rfl (B d23_3) rfl rfl k)
    obtain ⟨cq4, kq4, q4a, q4b, q4c⟩ := isOf hZ e0 SF.exa
    obtain ⟨_, _, ⟨T4, L4, k4, n4⟩, -, X4, ⟨Lc4, hQ4, l4, y4, z4⟩, st4⟩ := X0.virtualBack hx (y := mN1) (z := mN1) hown (mvT hZ (hw _ (mW 32 rfl))) (mvT hZ (hw _ (mW 33 rfl))) (notFace_of_selects (args := #[]) (mvT hZ (hw _ (mW 35 rfl)))) (mvT hZ (hw _ (mW 35 rfl))) (mvT hZ (hw _ (mW 34 rfl))) (by decide) (backOf (W := 1) (rmJL l Z a0 hw [] a1 cz fv [c0, c1] (2 : Int32) h0 n0 Z0 O0 J0 SF (by rfl)) hZ (hw _ (mW 36 rfl)) (hw _ (mW 8 rfl)) (by decide) (by decide)) q4a q4c (g := (mkF m 4 #[rv a1, iv p1, iv (0 : Int32)] [(.ref a1), (.int (0 : Int32))])) rfl (hM rfl) (Steps.refl _) (argsL := []) (rest := [(.int (0 : Int32))]) (lenOf pd15 rfl) rfl (Nat.le_of_eq rfl) (B d23_4) (fun _ _ => ⟨rfl, e0, wl rfl, wl rfl⟩)
    dsimp only [Pt.U, Pt.locs, Pt.cells, Pt.slots] at X4 l4 y4 z4 st4 hQ4
    subst l4 y4 z4
    obtain ⟨rfl, N4q, hq4⟩ := hQ4
    have N4 := Fr.app N0 N4q
    have pre5 : Go p e bl T4 (mkF m 7 #[rv a1, iv p1, iv (0 : Int32)] [(.int (2 : Int32)), (.int (0 : Int32))]) s1 EF := fun t k => pre3 t (st4.trans k)
    have e4 : T4.heap = h0 := hq4
    have pre6 : Go p e bl T4 (mkF m 10 #[rv a1, iv p1, iv (0 : Int32)] []) s1 EF := fun t k => pre5 t (XS.icmpNo X4.here hx rfl (B d23_7) rfl (tlt (by decide : (0 : Int32) < (2 : Int32))).2.1 k)
    have pre7 : Go p e bl T4 (mkF m 12 #[rv a1, iv p1, iv (0 : Int32)] [(.int (0 : Int32)), (.ref a1)]) s1 EF := fun t k => pre6 t (by
     refine XS.aloadN X4.here hx rfl (B d23_10) rfl rfl ?_
     exact XS.iloadN X4.here hx rfl (B d23_11) rfl k)
    obtain ⟨cq8, kq8, q8a, q8b, q8c⟩ := isOf hZ e4 SF.exa
    obtain ⟨_, _, ⟨T8, L8, k8, n8⟩, -, X8, ⟨Lc8, hQ8, l8, y8, z8⟩, st8⟩ := X4.virtualBack hx (y := mN10) (z := mN10) hown (mvT hZ (hw _ (mW 56 rfl))) (mvT hZ (hw _ (mW 57 rfl))) (notFace_of_selects (args := #[]) (mvT hZ (hw _ (mW 59 rfl)))) (mvT hZ (hw _ (mW 59 rfl))) (mvT hZ (hw _ (mW 58 rfl))) (by decide) (backOf (W := 0) (rmJC l Z a0 hw [] a1 (0 : Int32) cz fv [c0, c1] c0 h0 n0 Z0 O0 J0 SF (by decide) rfl) hZ (hw _ (mW 60 rfl)) (hw _ (mW 8 rfl)) (by decide) (by decide)) q8a q8c (g := (mkF m 12 #[rv a1, iv p1, iv (0 : Int32)] [(.int (0 : Int32)), (.ref a1)])) rfl (hM rfl) (Steps.refl _) (argsL := [(.int (0 : Int32))]) (rest := []) (lenOf pd16 rfl) rfl (Nat.le_of_eq rfl) (B d23_12) (fun _ _ => ⟨rfl, e4, wl rfl, wl rfl⟩)
    dsimp only [Pt.U, Pt.locs, Pt.cells, Pt.slots] at X8 l8 y8 z8 st8 hQ8
    subst l8 y8 z8
    obtain ⟨rfl, N8q, hq8⟩ := hQ8
    have N8 := Fr.app N4 N8q
    have pre9 : Go p e bl T8 (mkF m 15 #[rv a1, iv p1, iv (0 : Int32)] [(.int c0)]) s1 EF := fun t k => pre7 t (st8.trans k)
    have e8 : T8.heap = h0 := hq8
    obtain ⟨_, _, ⟨T10, L10, k10, n10⟩, -, X10, ⟨Lc10, hQ10, l10, y10, z10⟩, st10⟩ := Jvm.LawKit.callS X8 hx (y := mN20) hown (mvT hZ (hw _ (mW 78 rfl))) (mvT hZ (hw _ (mW 79 rfl))) (mvT hZ (hw _ (mW 30 rfl))) (mvT hZ (hw _ (mW 80 rfl))) (by decide) (backOf (W := 0) (rmT l Z a0 hw [] c0 ta cl (expF c0) h0 n0 Z0 (S0.ext O0.2) (TB.ext O0.2) (own_eq cl HT c0)) hZ (hw _ (mW 80 rfl)) (hw _ (mW 30 rfl)) (by decide) (by decide)) (g := (mkF m 15 #[rv a1, iv p1, iv (0 : Int32)] [(.int c0)])) rfl (hM rfl) (argsL := [(.int c0)]) (rest := []) (lenOf pd17 rfl) rfl (Nat.le_of_eq rfl) (B d23_15) (fun _ _ => ⟨rfl, e8, wl rfl, wl rfl⟩)
    dsimp only [Pt.U, Pt.locs, Pt.cells, Pt.slots] at X10 l10 y10 z10 st10 hQ10
    subst l10 y10 z10
    obtain ⟨rfl, N10q, hq10⟩ := hQ10
    have N10 := Fr.app N8 N10q
    have pre11 : Go p e bl T10 (mkF m 18 #[rv a1, iv p1, iv (0 : Int32)] [(.int (expF c0))]) s1 EF := fun t k => pre9 t (st10 t k)
    have e10 : T10.heap = h0 := hq10
    by_cases hc18 : (expF c0) = (0 : Int32)
    · have pre12 : Go p e bl T10 (mkF m 27 #[rv a1, iv p1, iv (0 : Int32)] []) s1 EF := fun t k => pre11 t (XS.ifYes X10.here hx rfl (pc0 := 18) (pc' := 27) rfl (B d23_18) rfl ((if0 _ _).trans (teq hc18).1) (by decide) (by decide) k)
      have pre13 : Go p e bl T10 (mkF m 28 #[rv a1, iv p1, iv (0 : Int32)] [(.int (0 : Int32))]) s1 EF := fun t k => pre12 t (by
       exact XS.iloadN X10.here hx rfl (B d23_27) rfl k)
      exact fin1 X10 (v := some (.int (0 : Int32))) hrt hlk (wl rfl) (wl rfl) (by rw [e10]; exact ⟨by rw [← hR]; simp +decide [stepF, hv2_0, hc18], N10, rfl⟩) (fun fs hr => hEF ▸ pre13 _ (retOut X10 hx Bd.returns rfl (Or.inl ⟨rfl, Or.inl rfl, _, rfl⟩) (B d23_28) hr))
    have pre14 : Go p e bl T10 (mkF m 21 #[rv a1, iv p1, iv (0 : Int32)] []) s1 EF := fun t k => pre11 t (XS.ifNo X10.here hx rfl (B d23_18) rfl ((if0 _ _).trans (feq hc18).1) k)
    have pre15 : Go p e bl T10 (mkF m 4 #[rv a1, iv p1, iv (1 : Int32)] [(.ref a1), (.int (1 : Int32))]) s1 EF := fun t k => pre14 t (by
     refine XS.iinc X10.here hx rfl (B d23_21) rfl (l' := #[rv a1, iv p1, iv (1 : Int32)]) rfl ?_
     refine XS.goto X10.here hx rfl (pc0 := 24) (pc' := 2) rfl (B d23_24) (by decide) (by decide) ?_
     refine XS.iloadN X10.here hx rfl (B d23_2) rfl ?_
     exact XS.aloadN X10.here hx rfl (B d23_3) rfl rfl k)
    obtain ⟨cq16, kq16, q16a, q16b, q16c⟩ := isOf hZ e10 SF.exa
    obtain ⟨_, _, ⟨T16, L16, k16, n16⟩, -, X16, ⟨Lc16, hQ16, l16, y16, z16⟩, st16⟩ := X10.virtualBack hx (y := mN1) (z := mN1) hown (mvT hZ (hw _ (mW 32 rfl))) (mvT hZ (hw _ (mW 33 rfl))) (notFace_of_selects (args := #[]) (mvT hZ (hw _ (mW 35 rfl)))) (mvT hZ (hw _ (mW 35 rfl))) (mvT hZ (hw _ (mW 34 rfl))) (by decide) (backOf (W := 1) (rmJL l Z a0 hw [] a1 cz fv [c0, c1] (2 : Int32) h0 n0 Z0 O0 J0 SF (by rfl)) hZ (hw _ (mW 36 rfl)) (hw _ (mW 8 rfl)) (by decide) (by decide)) q16a q16c (g := (mkF m 4 #[rv a1, iv p1, iv (1 : Int32)] [(.ref a1), (.int (1 : Int32))])) rfl (hM rfl) (Steps.refl _) (argsL := []) (rest := [(.int (1 : Int32))]) (lenOf pd15 rfl) rfl (Nat.le_of_eq rfl) (B d23_4) (fun _ _ => ⟨rfl, e10, wl rfl, wl rfl⟩)
    dsimp only [Pt.U, Pt.locs, Pt.cells, Pt.slots] at X16 l16 y16 z16 st16 hQ16
    subst l16 y16 z16
    obtain ⟨rfl, N16q, hq16⟩ := hQ16
    have N16 := Fr.app N10 N16q
    have pre17 : Go p e bl T16 (mkF m 7 #[rv a1, iv p1, iv (1 : Int32)] [(.int (2 : Int32)), (.int (1 : Int32))]) s1 EF := fun t k => pre15 t (st16.trans k)
    have e16 : T16.heap = h0 := hq16
    have pre18 : Go p e bl T16 (mkF m 10 #[rv a1, iv p1, iv (1 : Int32)] []) s1 EF := fun t k => pre17 t (XS.icmpNo X16.here hx rfl (B d23_7) rfl (tlt (by decide : (1 : Int32) < (2 : Int32))).2.1 k)
    have pre19 : Go p e bl T16 (mkF m 12 #[rv a1, iv p1, iv (1 : Int32)] [(.int (1 : Int32)), (.ref a1)]) s1 EF := fun t k => pre18 t (by
     refine XS.aloadN X16.here hx rfl (B d23_10) rfl rfl ?_
     exact XS.iloadN X16.here hx rfl (B d23_11) rfl k)
    obtain ⟨cq20, kq20, q20a, q20b, q20c⟩ := isOf hZ e16 SF.exa
    obtain ⟨_, _, ⟨T20, L20, k20, n20⟩, -, X20, ⟨Lc20, hQ20, l20, y20, z20⟩, st20⟩ := X16.virtualBack hx (y := mN10) (z := mN10) hown (mvT hZ (hw _ (mW 56 rfl))) (mvT hZ (hw _ (mW 57 rfl))) (notFace_of_selects (args := #[]) (mvT hZ (hw _ (mW 59 rfl)))) (mvT hZ (hw _ (mW 59 rfl))) (mvT hZ (hw _ (mW 58 rfl))) (by decide) (backOf (W := 0) (rmJC l Z a0 hw [] a1 (1 : Int32) cz fv [c0, c1] c1 h0 n0 Z0 O0 J0 SF (by decide) rfl) hZ (hw _ (mW 60 rfl)) (hw _ (mW 8 rfl)) (by decide) (by decide)) q20a q20c (g := (mkF m 12 #[rv a1, iv p1, iv (1 : Int32)] [(.int (1 : Int32)), (.ref a1)])) rfl (hM rfl) (Steps.refl _) (argsL := [(.int (1 : Int32))]) (rest := []) (lenOf pd16 rfl) rfl (Nat.le_of_eq rfl) (B d23_12) (fun _ _ => ⟨rfl, e16, wl rfl, wl rfl⟩)
    dsimp only [Pt.U, Pt.locs, Pt.cells, Pt.slots] at X20 l20 y20 z20 st20 hQ20
    subst l20 y20 z20
    obtain ⟨rfl, N20q, hq20⟩ := hQ20
    have N20 := Fr.app N16 N20q
    have pre21 : Go p e bl T20 (mkF m 15 #[rv a1, iv p1, iv (1 : Int32)] [(.int c1)]) s1 EF := fun t k => pre19 t (st20.trans k)
    have e20 : T20.heap = h0 := hq20
    obtain ⟨_, _, ⟨T22, L22, k22, n22⟩, -, X22, ⟨Lc22, hQ22, l22, y22, z22⟩, st22⟩ := Jvm.LawKit.callS X20 hx (y := mN20) hown (mvT hZ (hw _ (mW 78 rfl))) (mvT hZ (hw _ (mW 79 rfl))) (mvT hZ (hw _ (mW 30 rfl))) (mvT hZ (hw _ (mW 80 rfl))) (by decide) (backOf (W := 0) (rmT l Z a0 hw [] c1 ta cl (expF c1) h0 n0 Z0 (S0.ext O0.2) (TB.ext O0.2) (own_eq cl HT c1)) hZ (hw _ (mW 80 rfl)) (hw _ (mW 30 rfl)) (by decide) (by decide)) (g := (mkF m 15 #[rv a1, iv p1, iv (1 : Int32)] [(.int c1)])) rfl (hM rfl) (argsL := [(.int c1)]) (rest := []) (lenOf pd17 rfl) rfl (Nat.le_of_eq rfl) (B d23_15) (fun _ _ => ⟨rfl, e20, wl rfl, wl rfl⟩)
    dsimp only [Pt.U, Pt.locs, Pt.cells, Pt.slots] at X22 l22 y22 z22 st22 hQ22
    subst l22 y22 z22
    obtain ⟨rfl, N22q, hq22⟩ := hQ22
    have N22 := Fr.app N20 N22q
    have pre23 : Go p e bl T22 (mkF m 18 #[rv a1, iv p1, iv (1 : Int32)] [(.int (expF c1))]) s1 EF := fun t k => pre21 t (st22 t k)
    have e22 : T22.heap = h0 := hq22
    by_cases hc18' : (expF c1) = (0 : Int32)
    · have pre24 : Go p e bl T22 (mkF m 27 #[rv a1, iv p1, iv (1 : Int32)] []) s1 EF := fun t k => pre23 t (XS.ifYes X22.here hx rfl (pc0 := 18) (pc' := 27) rfl (B d23_18) rfl ((if0 _ _).trans (teq hc18').1) (by decide) (by decide) k)
      have pre25 : Go p e bl T22 (mkF m 28 #[rv a1, iv p1, iv (1 : Int32)] [(.int (1 : Int32))]) s1 EF := fun t k => pre24 t (by
       exact XS.iloadN X22.here hx rfl (B d23_27) rfl k)
      exact fin1 X22 (v := some (.int (1 : Int32))) hrt hlk (wl rfl) (wl rfl) (by rw [e22]; exact ⟨by rw [← hR]; simp +decide [stepF, hv2_0, hc18, hc18'], N22, rfl⟩) (fun fs hr => hEF ▸ pre25 _ (retOut X22 hx Bd.returns rfl (Or.inl ⟨rfl, Or.inl rfl, _, rfl⟩) (B d23_28) hr))
    have pre26 : Go p e bl T22 (mkF m 21 #[rv a1, iv p1, iv (1 : Int32)] []) s1 EF := fun t k => pre23 t (XS.ifNo X22.here hx rfl (B d23_18) rfl ((if0 _ _).trans (feq hc18').1) k)
    have pre27 : Go p e bl T22 (mkF m 4 #[rv a1, iv p1, iv (2 : Int32)] [(.ref a1), (.int (2 : Int32))]) s1 EF := fun t k => pre26 t (by
     refine XS.iinc X22.here hx rfl (B d23_21) rfl (l' := #[rv a1, iv p1, iv (2 : Int32)]) rfl ?_
     refine XS.goto X22.here hx rfl (pc0 := 24) (pc' := 2) rfl (B d23_24) (by decide) (by decide) ?_
     refine XS.iloadN X22.here hx rfl (B d23_2) rfl ?_
     exact XS.aloadN X22.here hx rfl (B d23_3) rfl rfl k)
    obtain ⟨cq28, kq28, q28a, q28b, q28c⟩ := isOf hZ e22 SF.exa
    obtain ⟨_, _, ⟨T28, L28, k28, n28⟩, -, X28, ⟨Lc28, hQ28, l28, y28, z28⟩, st28⟩ := X22.virtualBack hx (y := mN1) (z := mN1) hown (mvT hZ (hw _ (mW 32 rfl))) (mvT hZ (hw _ (mW 33 rfl))) (notFace_of_selects (args := #[]) (mvT hZ (hw _ (mW 35 rfl)))) (mvT hZ (hw _ (mW 35 rfl))) (mvT hZ (hw _ (mW 34 rfl))) (by decide) (backOf (W := 1) (rmJL l Z a0 hw [] a1 cz fv [c0, c1] (2 : Int32) h0 n0 Z0 O0 J0 SF (by rfl)) hZ (hw _ (mW 36 rfl)) (hw _ (mW 8 rfl)) (by decide) (by decide)) q28a q28c (g := (mkF m 4 #[rv a1, iv p1, iv (2 : Int32)] [(.ref a1), (.int (2 : Int32))])) rfl (hM rfl) (Steps.refl _) (argsL := []) (rest := [(.int (2 : Int32))]) (lenOf pd15 rfl) rfl (Nat.le_of_eq rfl) (B d23_4) (fun _ _ => ⟨rfl, e22, wl rfl, wl rfl⟩)
    dsimp only [Pt.U, Pt.locs, Pt.cells, Pt.slots] at X28 l28 y28 z28 st28 hQ28
    subst l28 y28 z28
    obtain ⟨rfl, N28q, hq28⟩ := hQ28
    have N28 := Fr.app N22 N28q
    have pre29 : Go p e bl T28 (mkF m 7 #[rv a1, iv p1, iv (2 : Int32)] [(.int (2 : Int32)), (.int (2 : Int32))]) s1 EF := fun t k => pre27 t (st28.trans k)
    have e28 : T28.heap = h0 := hq28
    have pre30 : Go p e bl T28 (mkF m 27 #[rv a1, iv p1, iv (2 : Int32)] []) s1 EF := fun t k => pre29 t (XS.icmpYes X28.here hx rfl (pc0 := 7) (pc' := 27) rfl (B d23_7) rfl (flt (by decide : ¬ ((2 : Int32) < (2 : Int32)))).2.1 (by decide) (by decide) k)
    have pre31 : Go p e bl T28 (mkF m 28 #[rv a1, iv p1, iv (2 : Int32)] [(.int (2 : Int32))]) s1 EF := fun t k => pre30 t (by
     exact XS.iloadN X28.here hx rfl (B d23_27) rfl k)
    exact fin1 X28 (v := some (.int (2 : Int32))) hrt hlk (wl rfl) (wl rfl) (by rw [e28]; exact ⟨by rw [← hR]; simp +decide [stepF, hv2_0, hc18, hc18'], N28, rfl⟩) (fun fs hr => hEF ▸ pre31 _ (retOut X28 hx Bd.returns rfl (Or.inl ⟨rfl, Or.inl rfl, _, rfl⟩) (B d23_28) hr))
  · have pre32 : Go p e bl s1 (mkF m 4 #[rv a1, iv p1, iv (1 : Int32)] [(.ref a1), (.int (1 : Int32))]) s1 EF := fun t k => pre1 t (by
     refine XS.istoreN X0.here hx rfl (B d23_1) rfl (l' := #[rv a1, iv p1, iv (1 : Int32)]) (by rw [hv2_1]; rfl) ?_
     refine XS.iloadN X0.here hx rfl (B d23_2) rfl ?_
     exact XS.aloadN X0.here hx rfl (B d23_3) rfl rfl k)
    obtain ⟨cq33, kq33, q33a, q33b, q33c⟩ := isOf hZ e0 SF.exa
    obtain ⟨_, _, ⟨T33, L33, k33, n33⟩, -, X33, ⟨Lc33, hQ33, l33, y33, z33⟩, st33⟩ := X0.virtualBack hx (y := mN1) (z := mN1) hown (mvT hZ (hw _ (mW 32 rfl))) (mvT hZ (hw _ (mW 33 rfl))) (notFace_of_selects (args := #[]) (mvT hZ (hw _ (mW 35 rfl)))) (mvT hZ (hw _ (mW 35 rfl))) (mvT hZ (hw _ (mW 34 rfl))) (by decide) (backOf (W := 1) (rmJL l Z a0 hw [] a1 cz fv [c0, c1] (2 : Int32) h0 n0 Z0 O0 J0 SF (by rfl)) hZ (hw _ (mW 36 rfl)) (hw _ (mW 8 rfl)) (by decide) (by decide)) q33a q33c (g := (mkF m 4 #[rv a1, iv p1, iv (1 : Int32)] [(.ref a1), (.int (1 : Int32))])) rfl (hM rfl) (Steps.refl _) (argsL := []) (rest := [(.int (1 : Int32))]) (lenOf pd15 rfl) rfl (Nat.le_of_eq rfl) (B d23_4) (fun _ _ => ⟨rfl, e0, wl rfl, wl rfl⟩)
    dsimp only [Pt.U, Pt.locs, Pt.cells, Pt.slots] at X33 l33 y33 z33 st33 hQ33
    subst l33 y33 z33
    obtain ⟨rfl, N33q, hq33⟩ := hQ33
    have N33 := Fr.app N0 N33q
    have pre34 : Go p e bl T33 (mkF m 7 #[rv a1, iv p1, iv (1 : Int32)] [(.int (2 : Int32)), (.int (1 : Int32))]) s1 EF := fun t k => pre32 t (st33.trans k)
    have e33 : T33.heap = h0 := hq33
    have pre35 : Go p e bl T33 (mkF m 10 #[rv a1, iv p1, iv (1 : Int32)] []) s1 EF := fun t k => pre34 t (XS.icmpNo X33.here hx rfl (B d23_7) rfl (tlt (by decide : (1 : Int32) < (2 : Int32))).2.1 k)
    have pre36 : Go p e bl T33 (mkF m 12 #[rv a1, iv p1, iv (1 : Int32)] [(.int (1 : Int32)), (.ref a1)]) s1 EF := fun t k => pre35 t (by
     refine XS.aloadN X33.here hx rfl (B d23_10) rfl rfl ?_
     exact XS.iloadN X33.here hx rfl (B d23_11) rfl k)
    obtain ⟨cq37, kq37, q37a, q37b, q37c⟩ := isOf hZ e33 SF.exa
    obtain ⟨_, _, ⟨T37, L37, k37, n37⟩, -, X37, ⟨Lc37, hQ37, l37, y37, z37⟩, st37⟩ := X33.virtualBack hx (y := mN10) (z := mN10) hown (mvT hZ (hw _ (mW 56 rfl))) (mvT hZ (hw _ (mW 57 rfl))) (notFace_of_selects (args := #[]) (mvT hZ (hw _ (mW 59 rfl)))) (mvT hZ (hw _ (mW 59 rfl))) (mvT hZ (hw _ (mW 58 rfl))) (by decide) (backOf (W := 0) (rmJC l Z a0 hw [] a1 (1 : Int32) cz fv [c0, c1] c1 h0 n0 Z0 O0 J0 SF (by decide) rfl) hZ (hw _ (mW 60 rfl)) (hw _ (mW 8 rfl)) (by decide) (by decide)) q37a q37c (g := (mkF m 12 #[rv a1, iv p1, iv (1 : Int32)] [(.int (1 : Int32)), (.ref a1)])) rfl (hM rfl) (Steps.refl _) (argsL := [(.int (1 : Int32))]) (rest := []) (lenOf pd16 rfl) rfl (Nat.le_of_eq rfl) (B d23_12) (fun _ _ => ⟨rfl, e33, wl rfl, wl rfl⟩)
    dsimp only [Pt.U, Pt.locs, Pt.cells, Pt.slots] at X37 l37 y37 z37 st37 hQ37
    subst l37 y37 z37
    obtain ⟨rfl, N37q, hq37⟩ := hQ37
    have N37 := Fr.app N33 N37q
    have pre38 : Go p e bl T37 (mkF m 15 #[rv a1, iv p1, iv (1 : Int32)] [(.int c1)]) s1 EF := fun t k => pre36 t (st37.trans k)
    have e37 : T37.heap = h0 := hq37
    obtain ⟨_, _, ⟨T39, L39, k39, n39⟩, -, X39, ⟨Lc39, hQ39, l39, y39, z39⟩, st39⟩ := Jvm.LawKit.callS X37 hx (y := mN20) hown (mvT hZ (hw _ (mW 78 rfl))) (mvT hZ (hw _ (mW 79 rfl))) (mvT hZ (hw _ (mW 30 rfl))) (mvT hZ (hw _ (mW 80 rfl))) (by decide) (backOf (W := 0) (rmT l Z a0 hw [] c1 ta cl (expF c1) h0 n0 Z0 (S0.ext O0.2) (TB.ext O0.2) (own_eq cl HT c1)) hZ (hw _ (mW 80 rfl)) (hw _ (mW 30 rfl)) (by decide) (by decide)) (g := (mkF m 15 #[rv a1, iv p1, iv (1 : Int32)] [(.int c1)])) rfl (hM rfl) (argsL := [(.int c1)]) (rest := []) (lenOf pd17 rfl) rfl (Nat.le_of_eq rfl) (B d23_15) (fun _ _ => ⟨rfl, e37, wl rfl, wl rfl⟩)
    dsimp only [Pt.U, Pt.locs, Pt.cells, Pt.slots] at X39 l39 y39 z39 st39 hQ39
    subst l39 y39 z39
    obtain ⟨rfl, N39q, hq39⟩ := hQ39
    have N39 := Fr.app N37 N39q
    have pre40 : Go p e bl T39 (mkF m 18 #[rv a1, iv p1, iv (1 : Int32)] [(.int (expF c1))]) s1 EF := fun t k => pre38 t (st39 t k)
    have e39 : T39.heap = h0 := hq39
    by_cases hc18 : (expF c1) = (0 : Int32)
    · have pre41 : Go p e bl T39 (mkF m 27 #[rv a1, iv p1, iv (1 : Int32)] []) s1 EF := fun t k => pre40 t (XS.ifYes X39.here hx rfl (pc0 := 18) (pc' := 27) rfl (B d23_18) rfl ((if0 _ _).trans (teq hc18).1) (by decide) (by decide) k)
      have pre42 : Go p e bl T39 (mkF m 28 #[rv a1, iv p1, iv (1 : Int32)] [(.int (1 : Int32))]) s1 EF := fun t k => pre41 t (by
       exact XS.iloadN X39.here hx rfl (B d23_27) rfl k)
      exact fin1 X39 (v := some (.int (1 : Int32))) hrt hlk (wl rfl) (wl rfl) (by rw [e39]; exact ⟨by rw [← hR]; simp +decide [stepF, hv2_1, hc18], N39, rfl⟩) (fun fs hr => hEF ▸ pre42 _ (retOut X39 hx Bd.returns rfl (Or.inl ⟨rfl, Or.inl rfl, _, rfl⟩) (B d23_28) hr))
    have pre43 : Go p e bl T39 (mkF m 21 #[rv a1, iv p1, iv (1 : Int32)] []) s1 EF := fun t k => pre40 t (XS.ifNo X39.here hx rfl (B d23_18) rfl ((if0 _ _).trans (feq hc18).1) k)
    have pre44 : Go p e bl T39 (mkF m 4 #[rv a1, iv p1, iv (2 : Int32)] [(.ref a1), (.int (2 : Int32))]) s1 EF := fun t k => pre43 t (by
     refine XS.iinc X39.here hx rfl (B d23_21) rfl (l' := #[rv a1, iv p1, iv (2 : Int32)]) rfl ?_
     refine XS.goto X39.here hx rfl (pc0 := 24) (pc' := 2) rfl (B d23_24) (by decide) (by decide) ?_
     refine XS.iloadN X39.here hx rfl (B d23_2) rfl ?_
     exact XS.aloadN X39.here hx rfl (B d23_3) rfl rfl k)
    obtain ⟨cq45, kq45, q45a, q45b, q45c⟩ := isOf hZ e39 SF.exa
    obtain ⟨_, _, ⟨T45, L45, k45, n45⟩, -, X45, ⟨Lc45, hQ45, l45, y45, z45⟩, st45⟩ := X39.virtualBack hx (y := mN1) (z := mN1) hown (mvT hZ (hw _ (mW 32 rfl))) (mvT hZ (hw _ (mW 33 rfl))) (notFace_of_selects (args := #[]) (mvT hZ (hw _ (mW 35 rfl)))) (mvT hZ (hw _ (mW 35 rfl))) (mvT hZ (hw _ (mW 34 rfl))) (by decide) (backOf (W := 1) (rmJL l Z a0 hw [] a1 cz fv [c0, c1] (2 : Int32) h0 n0 Z0 O0 J0 SF (by rfl)) hZ (hw _ (mW 36 rfl)) (hw _ (mW 8 rfl)) (by decide) (by decide)) q45a q45c (g := (mkF m 4 #[rv a1, iv p1, iv (2 : Int32)] [(.ref a1), (.int (2 : Int32))])) rfl (hM rfl) (Steps.refl _) (argsL := []) (rest := [(.int (2 : Int32))]) (lenOf pd15 rfl) rfl (Nat.le_of_eq rfl) (B d23_4) (fun _ _ => ⟨rfl, e39, wl rfl, wl rfl⟩)
    dsimp only [Pt.U, Pt.locs, Pt.cells, Pt.slots] at X45 l45 y45 z45 st45 hQ45
    subst l45 y45 z45
    obtain ⟨rfl, N45q, hq45⟩ := hQ45
    have N45 := Fr.app N39 N45q
    have pre46 : Go p e bl T45 (mkF m 7 #[rv a1, iv p1, iv (2 : Int32)] [(.int (2 : Int32)), (.int (2 : Int32))]) s1 EF := fun t k => pre44 t (st45.trans k)
    have e45 : T45.heap = h0 := hq45
    have pre47 : Go p e bl T45 (mkF m 27 #[rv a1, iv p1, iv (2 : Int32)] []) s1 EF := fun t k => pre46 t (XS.icmpYes X45.here hx rfl (pc0 := 7) (pc' := 27) rfl (B d23_7) rfl (flt (by decide : ¬ ((2 : Int32) < (2 : Int32)))).2.1 (by decide) (by decide) k)
    have pre48 : Go p e bl T45 (mkF m 28 #[rv a1, iv p1, iv (2 : Int32)] [(.int (2 : Int32))]) s1 EF := fun t k => pre47 t (by
     exact XS.iloadN X45.here hx rfl (B d23_27) rfl k)
    exact fin1 X45 (v := some (.int (2 : Int32))) hrt hlk (wl rfl) (wl rfl) (by rw [e45]; exact ⟨by rw [← hR]; simp +decide [stepF, hv2_1, hc18], N45, rfl⟩) (fun fs hr => hEF ▸ pre48 _ (retOut X45 hx Bd.returns rfl (Or.inl ⟨rfl, Or.inl rfl, _, rfl⟩) (B d23_28) hr))
  · have pre49 : Go p e bl s1 (mkF m 4 #[rv a1, iv p1, iv (2 : Int32)] [(.ref a1), (.int (2 : Int32))]) s1 EF := fun t k => pre1 t (by
     refine XS.istoreN X0.here hx rfl (B d23_1) rfl (l' := #[rv a1, iv p1, iv (2 : Int32)]) (by rw [hv2_2]; rfl) ?_
     refine XS.iloadN X0.here hx rfl (B d23_2) rfl ?_
     exact XS.aloadN X0.here hx rfl (B d23_3) rfl rfl k)
    obtain ⟨cq50, kq50, q50a, q50b, q50c⟩ := isOf hZ e0 SF.exa
    obtain ⟨_, _, ⟨T50, L50, k50, n50⟩, -, X50, ⟨Lc50, hQ50, l50, y50, z50⟩, st50⟩ := X0.virtualBack hx (y := mN1) (z := mN1) hown (mvT hZ (hw _ (mW 32 rfl))) (mvT hZ (hw _ (mW 33 rfl))) (notFace_of_selects (args := #[]) (mvT hZ (hw _ (mW 35 rfl)))) (mvT hZ (hw _ (mW 35 rfl))) (mvT hZ (hw _ (mW 34 rfl))) (by decide) (backOf (W := 1) (rmJL l Z a0 hw [] a1 cz fv [c0, c1] (2 : Int32) h0 n0 Z0 O0 J0 SF (by rfl)) hZ (hw _ (mW 36 rfl)) (hw _ (mW 8 rfl)) (by decide) (by decide)) q50a q50c (g := (mkF m 4 #[rv a1, iv p1, iv (2 : Int32)] [(.ref a1), (.int (2 : Int32))])) rfl (hM rfl) (Steps.refl _) (argsL := []) (rest := [(.int (2 : Int32))]) (lenOf pd15 rfl) rfl (Nat.le_of_eq rfl) (B d23_4) (fun _ _ => ⟨rfl, e0, wl rfl, wl rfl⟩)
    dsimp only [Pt.U, Pt.locs, Pt.cells, Pt.slots] at X50 l50 y50 z50 st50 hQ50
    subst l50 y50 z50
    obtain ⟨rfl, N50q, hq50⟩ := hQ50
    have N50 := Fr.app N0 N50q
    have pre51 : Go p e bl T50 (mkF m 7 #[rv a1, iv p1, iv (2 : Int32)] [(.int (2 : Int32)), (.int (2 : Int32))]) s1 EF := fun t k => pre49 t (st50.trans k)
    have e50 : T50.heap = h0 := hq50
    have pre52 : Go p e bl T50 (mkF m 27 #[rv a1, iv p1, iv (2 : Int32)] []) s1 EF := fun t k => pre51 t (XS.icmpYes X50.here hx rfl (pc0 := 7) (pc' := 27) rfl (B d23_7) rfl (flt (by decide : ¬ ((2 : Int32) < (2 : Int32)))).2.1 (by decide) (by decide) k)
    have pre53 : Go p e bl T50 (mkF m 28 #[rv a1, iv p1, iv (2 : Int32)] [(.int (2 : Int32))]) s1 EF := fun t k => pre52 t (by
     exact XS.iloadN X50.here hx rfl (B d23_27) rfl k)
    exact fin1 X50 (v := some (.int (2 : Int32))) hrt hlk (wl rfl) (wl rfl) (by rw [e50]; exact ⟨by rw [← hR]; simp +decide [stepF, hv2_2], N50, rfl⟩) (fun fs hr => hEF ▸ pre53 _ (retOut X50 hx Bd.returns rfl (Or.inl ⟨rfl, Or.inl rfl, _, rfl⟩) (B d23_28) hr))
  · have pre54 : Go p e bl s1 (mkF m 4 #[rv a1, iv p1, iv (3 : Int32)] [(.ref a1), (.int (3 : Int32))]) s1 EF := fun t k => pre1 t (by
     refine XS.istoreN X0.here hx rfl (B d23_1) rfl (l' := #[rv a1, iv p1, iv (3 : Int32)]) (by rw [hv2_3]; rfl) ?_
     refine XS.iloadN X0.here hx rfl (B d23_2) rfl ?_
     exact XS.aloadN X0.here hx rfl (B d23_3) rfl rfl k)
    obtain ⟨cq55, kq55, q55a, q55b, q55c⟩ := isOf hZ e0 SF.exa
    obtain ⟨_, _, ⟨T55, L55, k55, n55⟩, -, X55, ⟨Lc55, hQ55, l55, y55, z55⟩, st55⟩ := X0.virtualBack hx (y := mN1) (z := mN1) hown (mvT hZ (hw _ (mW 32 rfl))) (mvT hZ (hw _ (mW 33 rfl))) (notFace_of_selects (args := #[]) (mvT hZ (hw _ (mW 35 rfl)))) (mvT hZ (hw _ (mW 35 rfl))) (mvT hZ (hw _ (mW 34 rfl))) (by decide) (backOf (W := 1) (rmJL l Z a0 hw [] a1 cz fv [c0, c1] (2 : Int32) h0 n0 Z0 O0 J0 SF (by rfl)) hZ (hw _ (mW 36 rfl)) (hw _ (mW 8 rfl)) (by decide) (by decide)) q55a q55c (g := (mkF m 4 #[rv a1, iv p1, iv (3 : Int32)] [(.ref a1), (.int (3 : Int32))])) rfl (hM rfl) (Steps.refl _) (argsL := []) (rest := [(.int (3 : Int32))]) (lenOf pd15 rfl) rfl (Nat.le_of_eq rfl) (B d23_4) (fun _ _ => ⟨rfl, e0, wl rfl, wl rfl⟩)
    dsimp only [Pt.U, Pt.locs, Pt.cells, Pt.slots] at X55 l55 y55 z55 st55 hQ55
    subst l55 y55 z55
    obtain ⟨rfl, N55q, hq55⟩ := hQ55
    have N55 := Fr.app N0 N55q
    have pre56 : Go p e bl T55 (mkF m 7 #[rv a1, iv p1, iv (3 : Int32)] [(.int (2 : Int32)), (.int (3 : Int32))]) s1 EF := fun t k => pre54 t (st55.trans k)
    have e55 : T55.heap = h0 := hq55
    have pre57 : Go p e bl T55 (mkF m 27 #[rv a1, iv p1, iv (3 : Int32)] []) s1 EF := fun t k => pre56 t (XS.icmpYes X55.here hx rfl (pc0 := 7) (pc' := 27) rfl (B d23_7) rfl (flt (by decide : ¬ ((3 : Int32) < (2 : Int32)))).2.1 (by decide) (by decide) k)
    have pre58 : Go p e bl T55 (mkF m 28 #[rv a1, iv p1, iv (3 : Int32)] [(.int (3 : Int32))]) s1 EF := fun t k => pre57 t (by
     exact XS.iloadN X55.here hx rfl (B d23_27) rfl k)
    exact fin1 X55 (v := some (.int (3 : Int32))) hrt hlk (wl rfl) (wl rfl) (by rw [e55]; exact ⟨by rw [← hR]; simp +decide [stepF, hv2_3], N55, rfl⟩) (fun fs hr => hEF ▸ pre58 _ (retOut X55 hx Bd.returns rfl (Or.inl ⟨rfl, Or.inl rfl, _, rfl⟩) (B d23_28) hr))
  · have pre59 : Go p e bl s1 (mkF m 4 #[rv a1, iv p1, iv (4 : Int32)] [(.ref a1), (.int (4 : Int32))]) s1 EF := fun t k => pre1 t (by
     refine XS.istoreN X0.here hx rfl (B d23_1) rfl (l' := #[rv a1, iv p1, iv (4 : Int32)]) (by rw [hv2_4]; rfl) ?_
     refine XS.iloadN X0.here hx rfl (B d23_2) rfl ?_
     exact XS.aloadN X0.here hx rfl (B d23_3) rfl rfl k)
    obtain ⟨cq60, kq60, q60a, q60b, q60c⟩ := isOf hZ e0 SF.exa
    obtain ⟨_, _, ⟨T60, L60, k60, n60⟩, -, X60, ⟨Lc60, hQ60, l60, y60, z60⟩, st60⟩ := X0.virtualBack hx (y := mN1) (z := mN1) hown (mvT hZ (hw _ (mW 32 rfl))) (mvT hZ (hw _ (mW 33 rfl))) (notFace_of_selects (args := #[]) (mvT hZ (hw _ (mW 35 rfl)))) (mvT hZ (hw _ (mW 35 rfl))) (mvT hZ (hw _ (mW 34 rfl))) (by decide) (backOf (W := 1) (rmJL l Z a0 hw [] a1 cz fv [c0, c1] (2 : Int32) h0 n0 Z0 O0 J0 SF (by rfl)) hZ (hw _ (mW 36 rfl)) (hw _ (mW 8 rfl)) (by decide) (by decide)) q60a q60c (g := (mkF m 4 #[rv a1, iv p1, iv (4 : Int32)] [(.ref a1), (.int (4 : Int32))])) rfl (hM rfl) (Steps.refl _) (argsL := []) (rest := [(.int (4 : Int32))]) (lenOf pd15 rfl) rfl (Nat.le_of_eq rfl) (B d23_4) (fun _ _ => ⟨rfl, e0, wl rfl, wl rfl⟩)
    dsimp only [Pt.U, Pt.locs, Pt.cells, Pt.slots] at X60 l60 y60 z60 st60 hQ60
    subst l60 y60 z60
    obtain ⟨rfl, N60q, hq60⟩ := hQ60
    have N60 := Fr.app N0 N60q
    have pre61 : Go p e bl T60 (mkF m 7 #[rv a1, iv p1, iv (4 : Int32)] [(.int (2 : Int32)), (.int (4 : Int32))]) s1 EF := fun t k => pre59 t (st60.trans k)
    have e60 : T60.heap = h0 := hq60
    have pre62 : Go p e bl T60 (mkF m 27 #[rv a1, iv p1, iv (4 : Int32)] []) s1 EF := fun t k => pre61 t (XS.icmpYes X60.here hx rfl (pc0 := 7) (pc' := 27) rfl (B d23_7) rfl (flt (by decide : ¬ ((4 : Int32) < (2 : Int32)))).2.1 (by decide) (by decide) k)
    have pre63 : Go p e bl T60 (mkF m 28 #[rv a1, iv p1, iv (4 : Int32)] [(.int (4 : Int32))]) s1 EF := fun t k => pre62 t (by
     exact XS.iloadN X60.here hx rfl (B d23_27) rfl k)
    exact fin1 X60 (v := some (.int (4 : Int32))) hrt hlk (wl rfl) (wl rfl) (by rw [e60]; exact ⟨by rw [← hR]; simp +decide [stepF, hv2_4], N60, rfl⟩) (fun fs hr => hEF ▸ pre63 _ (retOut X60 hx Bd.returns rfl (Or.inl ⟨rfl, Or.inl rfl, _, rfl⟩) (B d23_28) hr))
  have pre64 : Go p e bl s1 (mkF m 4 #[rv a1, iv p1, iv (5 : Int32)] [(.ref a1), (.int (5 : Int32))]) s1 EF := fun t k => pre1 t (by
   refine XS.istoreN X0.here hx rfl (B d23_1) rfl (l' := #[rv a1, iv p1, iv (5 : Int32)]) (by rw [hv2_5]; rfl) ?_
   refine XS.iloadN X0.here hx rfl (B d23_2) rfl ?_
   exact XS.aloadN X0.here hx rfl (B d23_3) rfl rfl k)
  obtain ⟨cq65, kq65, q65a, q65b, q65c⟩ := isOf hZ e0 SF.exa
  obtain ⟨_, _, ⟨T65, L65, k65, n65⟩, -, X65, ⟨Lc65, hQ65, l65, y65, z65⟩, st65⟩ := X0.virtualBack hx (y := mN1) (z := mN1) hown (mvT hZ (hw _ (mW 32 rfl))) (mvT hZ (hw _ (mW 33 rfl))) (notFace_of_selects (args := #[]) (mvT hZ (hw _ (mW 35 rfl)))) (mvT hZ (hw _ (mW 35 rfl))) (mvT hZ (hw _ (mW 34 rfl))) (by decide) (backOf (W := 1) (rmJL l Z a0 hw [] a1 cz fv [c0, c1] (2 : Int32) h0 n0 Z0 O0 J0 SF (by rfl)) hZ (hw _ (mW 36 rfl)) (hw _ (mW 8 rfl)) (by decide) (by decide)) q65a q65c (g := (mkF m 4 #[rv a1, iv p1, iv (5 : Int32)] [(.ref a1), (.int (5 : Int32))])) rfl (hM rfl) (Steps.refl _) (argsL := []) (rest := [(.int (5 : Int32))]) (lenOf pd15 rfl) rfl (Nat.le_of_eq rfl) (B d23_4) (fun _ _ => ⟨rfl, e0, wl rfl, wl rfl⟩)
  dsimp only [Pt.U, Pt.locs, Pt.cells, Pt.slots] at X65 l65 y65 z65 st65 hQ65
  subst l65 y65 z65
  obtain ⟨rfl, N65q, hq65⟩ := hQ65
  have N65 := Fr.app N0 N65q
  have pre66 : Go p e bl T65 (mkF m 7 #[rv a1, iv p1, iv (5 : Int32)] [(.int (2 : Int32)), (.int (5 : Int32))]) s1 EF := fun t k => pre64 t (st65.trans k)
  have e65 : T65.heap = h0 := hq65
  have pre67 : Go p e bl T65 (mkF m 27 #[rv a1, iv p1, iv (5 : Int32)] []) s1 EF := fun t k => pre66 t (XS.icmpYes X65.here hx rfl (pc0 := 7) (pc' := 27) rfl (B d23_7) rfl (flt (by decide : ¬ ((5 : Int32) < (2 : Int32)))).2.1 (by decide) (by decide) k)
  have pre68 : Go p e bl T65 (mkF m 28 #[rv a1, iv p1, iv (5 : Int32)] [(.int (5 : Int32))]) s1 EF := fun t k => pre67 t (by
   exact XS.iloadN X65.here hx rfl (B d23_27) rfl k)
  exact fin1 X65 (v := some (.int (5 : Int32))) hrt hlk (wl rfl) (wl rfl) (by rw [e65]; exact ⟨by rw [← hR]; simp +decide [stepF, hv2_5], N65, rfl⟩) (fun fs hr => hEF ▸ pre68 _ (retOut X65 hx Bd.returns rfl (Or.inl ⟨rfl, Or.inl rfl, _, rfl⟩) (B d23_28) hr))
abbrev rKK3 : Room := { frames := 5, cells := 0, slots := 0, locals := 66 }
theorem efK3 (m : MethodId) (a1 : Addr) (p1 : Int32) : entryFrame m #[(.ref a1), (.int p1)] 3 = mkF m 0 #[rv a1, iv p1, .unset] [] := by first | (simp [entryFrame, mkF, argsToLocals, Value.category]; done) | rfl
def QK3 (Z : State) (a1 : Addr) (p1 : Int32) (cz : Int32) (fv : Value) (ta : Addr) (cl : Cell) (c0 : Int32) (c1 : Int32) (c2 : Int32) (r : Int32) (h0 : Heap) (n0 : Nat) (v : Option Value) (h : Heap) (L : List Loc) : Prop := v = some (.int r) ∧ Fr n0 L ∧ h = h0
set_option maxRecDepth 65536 in
set_option maxHeartbeats 40000000 in
theorem rmK3 (l : Launch) (Z : State) (a0 : Array Value) (hw : HW a0 Z) (ws : List Jvm.Cond) (a1 : Addr) (p1 : Int32) (cz : Int32) (fv : Value) (ta : Addr) (cl : Cell) (c0 : Int32) (c1 : Int32) (c2 : Int32) (r : Int32) (h0 : Heap) (n0 : Nat) (Z0 : n0 ≤ h0.size) (O0 : Old Z n0 h0) (J0 : Jd Z cz fv) (S0 : Sta Z Z.heap "com/example/oxpecker/oxpecker/http/HttpInput" "TOKEN" "[Z" (.ref ta)) (TB : Tab Z Z.heap ta cl .boolean 128) (HT : ∀ j : Int32, ¬ j < 0 → j < 128 → atv cl j = expF j) (SF : Str Z h0 a1 [c0, c1, c2]) (hp : p1 = 0 ∨ p1 = 1 ∨ p1 = 2 ∨ p1 = 3 ∨ p1 = 4 ∨ p1 = 5) (hR : (if p1 < (3 : Int32) then stepF 0 p1 c0 (stepF 1 p1 c1 (stepF 2 p1 c2 (3))) else p1) = r) :
    MF l Z mN23 prog_11_method_23_code 3 (some .int) ws rKK3 #[(.ref a1), (.int p1)] h0 (QK3 Z a1 p1 cz fv ta cl c0 c1 c2 r h0 n0) := by
  refine MetFree.of_bodySF (plainFor_of_name pn4) hisR ?_
  intro p e s m args bl meth c s1 Bd hml0 hP hK
  obtain ⟨rfl, hZ, hh⟩ := hP
  have hx := Bd.exec
  have hby := Bd.bytes
  have B := @hb c _ hby
  have hM := fun {n : Nat} (h : n = 3) => h.trans hml0.symm
  have hown : s.vm.findClass "com/example/oxpecker/oxpecker/http/HttpInput" = some m.cls := findClass_of_methodNamed Bd.named
  have hlk : meth.locks = false := BodyLoose.notSynchronized Bd
  have hrt : ∀ {v : Option Value}, meth.sig.returnType = none → v = none := fun h => by rw [Bd.returns] at h; cases h
  have X0 : Stand p l e rKK3 s m #[(.ref a1), (.int p1)] bl meth c s1 [] 0 0 := Stand.of_body Bd
  have e0 : s1.heap = h0 := by rw [← hh, Bd.state]; rfl
  have N0 := Fr.nil n0
  obtain ⟨EF, hEF⟩ : ∃ f, f = entryFrame m #[(.ref a1), (.int p1)] 3 := ⟨_, rfl⟩
  have pre0 : Go p e bl s1 (mkF m 0 #[rv a1, iv p1, .unset] []) s1 EF := fun t k => by rw [hEF]; exact castTop (efK3 m a1 p1) k
  have pre1 : Go p e bl s1 (mkF m 1 #[rv a1, iv p1, .unset] [(.int p1)]) s1 EF := fun t k => pre0 t (by
   exact XS.iloadN X0.here hx rfl (B d23_0) rfl k)
  rcases hp with hv2_0 | hv2_1 | hv2_2 | hv2_3 | hv2_4 | hv2_5
  · have pre3 : Go p e bl s1 (mkF m 4 #[rv a1, iv p1, iv (0 : Int32)] [(.ref a1), (.int (0 : Int32))]) s1 EF := fun t k => pre1 t (by
     refine XS.istoreN X0.here hx rfl (B d23_1) rfl (l' := #[rv a1, iv p1, iv (0 : Int32)]) (by rw [hv2_0]; rfl) ?_
     refine XS.iloadN X0.here hx rfl (B d23_2) rfl ?_
     exact XS.aloadN X0.here hx rfl (B d23_3) rfl rfl k)
    obtain ⟨cq4, kq4, q4a, q4b, q4c⟩ := isOf hZ e0 SF.exa
    obtain ⟨_, _, ⟨T4, L4, k4, n4⟩, -, X4, ⟨Lc4, hQ4, l4, y4, z4⟩, st4⟩ := X0.virtualBack hx (y := mN1) (z := mN1) hown (mvT hZ (hw _ (mW 32 rfl))) (mvT hZ (hw _ (mW 33 rfl))) (notFace_of_selects (args := #[]) (mvT hZ (hw _ (mW 35 rfl)))) (mvT hZ (hw _ (mW 35 rfl))) (mvT hZ (hw _ (mW 34 rfl))) (by decide) (backOf (W := 1) (rmJL l Z a0 hw [] a1 cz fv [c0, c1, c2] (3 : Int32) h0 n0 Z0 O0 J0 SF (by rfl)) hZ (hw _ (mW 36 rfl)) (hw _ (mW 8 rfl)) (by decide) (by decide)) q4a q4c (g := (mkF m 4 #[rv a1, iv p1, iv (0 : Int32)] [(.ref a1), (.int (0 : Int32))])) rfl (hM rfl) (Steps.refl _) (argsL := []) (rest := [(.int (0 : Int32))]) (lenOf pd15 rfl) rfl (Nat.le_of_eq rfl) (B d23_4) (fun _ _ => ⟨rfl, e0, wl rfl, wl rfl⟩)
    dsimp only [Pt.U, Pt.locs, Pt.cells, Pt.slots] at X4 l4 y4 z4 st4 hQ4
    subst l4 y4 z4
    obtain ⟨rfl, N4q, hq4⟩ := hQ4
    have N4 := Fr.app N0 N4q
    have pre5 : Go p e bl T4 (mkF m 7 #[rv a1, iv p1, iv (0 : Int32)] [(.int (3 : Int32)), (.int (0 : Int32))]) s1 EF := fun t k => pre3 t (st4.trans k)
    have e4 : T4.heap = h0 := hq4
    have pre6 : Go p e bl T4 (mkF m 10 #[rv a1, iv p1, iv (0 : Int32)] []) s1 EF := fun t k => pre5 t (XS.icmpNo X4.here hx rfl (B d23_7) rfl (tlt (by decide : (0 : Int32) < (3 : Int32))).2.1 k)
    have pre7 : Go p e bl T4 (mkF m 12 #[rv a1, iv p1, iv (0 : Int32)] [(.int (0 : Int32)), (.ref a1)]) s1 EF := fun t k => pre6 t (by
     refine XS.aloadN X4.here hx rfl (B d23_10) rfl rfl ?_
     exact XS.iloadN X4.here hx rfl (B d23_11) rfl k)
    obtain ⟨cq8, kq8, q8a, q8b, q8c⟩ := isOf hZ e4 SF.exa
    obtain ⟨_, _, ⟨T8, L8, k8, n8⟩, -, X8, ⟨Lc8, hQ8, l8, y8, z8⟩, st8⟩ := X4.virtualBack hx (y := mN10) (z := mN10) hown (mvT hZ (hw _ (mW 56 rfl))) (mvT hZ (hw _ (mW 57 rfl))) (notFace_of_selects (args := #[]) (mvT hZ (hw _ (mW 59 rfl)))) (mvT hZ (hw _ (mW 59 rfl))) (mvT hZ (hw _ (mW 58 rfl))) (by decide) (backOf (W := 0) (rmJC l Z a0 hw [] a1 (0 : Int32) cz fv [c0, c1, c2] c0 h0 n0 Z0 O0 J0 SF (by decide) rfl) hZ (hw _ (mW 60 rfl)) (hw _ (mW 8 rfl)) (by decide) (by decide)) q8a q8c (g := (mkF m 12 #[rv a1, iv p1, iv (0 : Int32)] [(.int (0 : Int32)), (.ref a1)])) rfl (hM rfl) (Steps.refl _) (argsL := [(.int (0 : Int32))]) (rest := []) (lenOf pd16 rfl) rfl (Nat.le_of_eq rfl) (B d23_12) (fun _ _ => ⟨rfl, e4, wl rfl, wl rfl⟩)
    dsimp only [Pt.U, Pt.locs, Pt.cells, Pt.slots] at X8 l8 y8 z8 st8 hQ8
    subst l8 y8 z8
    obtain ⟨rfl, N8q, hq8⟩ := hQ8
    have N8 := Fr.app N4 N8q
    have pre9 : Go p e bl T8 (mkF m 15 #[rv a1, iv p1, iv (0 : Int32)] [(.int c0)]) s1 EF := fun t k => pre7 t (st8.trans k)
    have e8 : T8.heap = h0 := hq8
    obtain ⟨_, _, ⟨T10, L10, k10, n10⟩, -, X10, ⟨Lc10, hQ10, l10, y10, z10⟩, st10⟩ := Jvm.LawKit.callS X8 hx (y := mN20) hown (mvT hZ (hw _ (mW 78 rfl))) (mvT hZ (hw _ (mW 79 rfl))) (mvT hZ (hw _ (mW 30 rfl))) (mvT hZ (hw _ (mW 80 rfl))) (by decide) (backOf (W := 0) (rmT l Z a0 hw [] c0 ta cl (expF c0) h0 n0 Z0 (S0.ext O0.2) (TB.ext O0.2) (own_eq cl HT c0)) hZ (hw _ (mW 80 rfl)) (hw _ (mW 30 rfl)) (by decide) (by decide)) (g := (mkF m 15 #[rv a1, iv p1, iv (0 : Int32)] [(.int c0)])) rfl (hM rfl) (argsL := [(.int c0)]) (rest := []) (lenOf pd17 rfl) rfl (Nat.le_of_eq rfl) (B d23_15) (fun _ _ => ⟨rfl, e8, wl rfl, wl rfl⟩)
    dsimp only [Pt.U, Pt.locs, Pt.cells, Pt.slots] at X10 l10 y10 z10 st10 hQ10
    subst l10 y10 z10
    obtain ⟨rfl, N10q, hq10⟩ := hQ10
    have N10 := Fr.app N8 N10q
    have pre11 : Go p e bl T10 (mkF m 18 #[rv a1, iv p1, iv (0 : Int32)] [(.int (expF c0))]) s1 EF := fun t k => pre9 t (st10 t k)
    have e10 : T10.heap = h0 := hq10
    by_cases hc18 : (expF c0) = (0 : Int32)
    · have pre12 : Go p e bl T10 (mkF m 27 #[rv a1, iv p1, iv (0 : Int32)] []) s1 EF := fun t k => pre11 t (XS.ifYes X10.here hx rfl (pc0 := 18) (pc' := 27) rfl (B d23_18) rfl ((if0 _ _).trans (teq hc18).1) (by decide) (by decide) k)
      have pre13 : Go p e bl T10 (mkF m 28 #[rv a1, iv p1, iv (0 : Int32)] [(.int (0 : Int32))]) s1 EF := fun t k => pre12 t (by
       exact XS.iloadN X10.here hx rfl (B d23_27) rfl k)
      exact fin1 X10 (v := some (.int (0 : Int32))) hrt hlk (wl rfl) (wl rfl) (by rw [e10]; exact ⟨by rw [← hR]; simp +decide [stepF, hv2_0, hc18], N10, rfl⟩) (fun fs hr => hEF ▸ pre13 _ (retOut X10 hx Bd.returns rfl (Or.inl ⟨rfl, Or.inl rfl, _, rfl⟩) (B d23_28) hr))
    have pre14 : Go p e bl T10 (mkF m 21 #[rv a1, iv p1, iv (0 : Int32)] []) s1 EF := fun t k => pre11 t (XS.ifNo X10.here hx rfl (B d23_18) rfl ((if0 _ _).trans (feq hc18).1) k)
    have pre15 : Go p e bl T10 (mkF m 4 #[rv a1, iv p1, iv (1 : Int32)] [(.ref a1), (.int (1 : Int32))]) s1 EF := fun t k => pre14 t (by
     refine XS.iinc X10.here hx rfl (B d23_21) rfl (l' := #[rv a1, iv p1, iv (1 : Int32)]) rfl ?_
     refine XS.goto X10.here hx rfl (pc0 := 24) (pc' := 2) rfl (B d23_24) (by decide) (by decide) ?_
     refine XS.iloadN X10.here hx rfl (B d23_2) rfl ?_
     exact XS.aloadN X10.here hx rfl (B d23_3) rfl rfl k)
    obtain ⟨cq16, kq16, q16a, q16b, q16c⟩ := isOf hZ e10 SF.exa
    obtain ⟨_, _, ⟨T16, L16, k16, n16⟩, -, X16, ⟨Lc16, hQ16, l16, y16, z16⟩, st16⟩ := X10.virtualBack hx (y := mN1) (z := mN1) hown (mvT hZ (hw _ (mW 32 rfl))) (mvT hZ (hw _ (mW 33 rfl))) (notFace_of_selects (args := #[]) (mvT hZ (hw _ (mW 35 rfl)))) (mvT hZ (hw _ (mW 35 rfl))) (mvT hZ (hw _ (mW 34 rfl))) (by decide) (backOf (W := 1) (rmJL l Z a0 hw [] a1 cz fv [c0, c1, c2] (3 : Int32) h0 n0 Z0 O0 J0 SF (by rfl)) hZ (hw _ (mW 36 rfl)) (hw _ (mW 8 rfl)) (by decide) (by decide)) q16a q16c (g := (mkF m 4 #[rv a1, iv p1, iv (1 : Int32)] [(.ref a1), (.int (1 : Int32))])) rfl (hM rfl) (Steps.refl _) (argsL := []) (rest := [(.int (1 : Int32))]) (lenOf pd15 rfl) rfl (Nat.le_of_eq rfl) (B d23_4) (fun _ _ => ⟨rfl, e10, wl rfl, wl rfl⟩)
    dsimp only [Pt.U, Pt.locs, Pt.cells, Pt.slots] at X16 l16 y16 z16 st16 hQ16
    subst l16 y16 z16
    obtain ⟨rfl, N16q, hq16⟩ := hQ16
    have N16 := Fr.app N10 N16q
    have pre17 : Go p e bl T16 (mkF m 7 #[rv a1, iv p1, iv (1 : Int32)] [(.int (3 : Int32)), (.int (1 : Int32))]) s1 EF := fun t k => pre15 t (st16.trans k)
    have e16 : T16.heap = h0 := hq16
    have pre18 : Go p e bl T16 (mkF m 10 #[rv a1, iv p1, iv (1 : Int32)] []) s1 EF := fun t k => pre17 t (XS.icmpNo X16.here hx rfl (B d23_7) rfl (tlt (by decide : (1 : Int32) < (3 : Int32))).2.1 k)
    have pre19 : Go p e bl T16 (mkF m 12 #[rv a1, iv p1, iv (1 : Int32)] [(.int (1 : Int32)), (.ref a1)]) s1 EF := fun t k => pre18 t (by
     refine XS.aloadN X16.here hx rfl (B d23_10) rfl rfl ?_
     exact XS.iloadN X16.here hx rfl (B d23_11) rfl k)
    obtain ⟨cq20, kq20, q20a, q20b, q20c⟩ := isOf hZ e16 SF.exa
    obtain ⟨_, _, ⟨T20, L20, k20, n20⟩, -, X20, ⟨Lc20, hQ20, l20, y20, z20⟩, st20⟩ := X16.virtualBack hx (y := mN10) (z := mN10) hown (mvT hZ (hw _ (mW 56 rfl))) (mvT hZ (hw _ (mW 57 rfl))) (notFace_of_selects (args := #[]) (mvT hZ (hw _ (mW 59 rfl)))) (mvT hZ (hw _ (mW 59 rfl))) (mvT hZ (hw _ (mW 58 rfl))) (by decide) (backOf (W := 0) (rmJC l Z a0 hw [] a1 (1 : Int32) cz fv [c0, c1, c2] c1 h0 n0 Z0 O0 J0 SF (by decide) rfl) hZ (hw _ (mW 60 rfl)) (hw _ (mW 8 rfl)) (by decide) (by decide)) q20a q20c (g := (mkF m 12 #[rv a1, iv p1, iv (1 : Int32)] [(.int (1 : Int32)), (.ref a1)])) rfl (hM rfl) (Steps.refl _) (argsL := [(.int (1 : Int32))]) (rest := []) (lenOf pd16 rfl) rfl (Nat.le_of_eq rfl) (B d23_12) (fun _ _ => ⟨rfl, e16, wl rfl, wl rfl⟩)
    dsimp only [Pt.U, Pt.locs, Pt.cells, Pt.slots] at X20 l20 y20 z20 st20 hQ20
    subst l20 y20 z20
    obtain ⟨rfl, N20q, hq20⟩ := hQ20
    have N20 := Fr.app N16 N20q
    have pre21 : Go p e bl T20 (mkF m 15 #[rv a1, iv p1, iv (1 : Int32)] [(.int c1)]) s1 EF := fun t k => pre19 t (st20.trans k)
    have e20 : T20.heap = h0 := hq20
    obtain ⟨_, _, ⟨T22, L22, k22, n22⟩, -, X22, ⟨Lc22, hQ22, l22, y22, z22⟩, st22⟩ := Jvm.LawKit.callS X20 hx (y := mN20) hown (mvT hZ (hw _ (mW 78 rfl))) (mvT hZ (hw _ (mW 79 rfl))) (mvT hZ (hw _ (mW 30 rfl))) (mvT hZ (hw _ (mW 80 rfl))) (by decide) (backOf (W := 0) (rmT l Z a0 hw [] c1 ta cl (expF c1) h0 n0 Z0 (S0.ext O0.2) (TB.ext O0.2) (own_eq cl HT c1)) hZ (hw _ (mW 80 rfl)) (hw _ (mW 30 rfl)) (by decide) (by decide)) (g := (mkF m 15 #[rv a1, iv p1, iv (1 : Int32)] [(.int c1)])) rfl (hM rfl) (argsL := [(.int c1)]) (rest := []) (lenOf pd17 rfl) rfl (Nat.le_of_eq rfl) (B d23_15) (fun _ _ => ⟨rfl, e20, wl rfl, wl rfl⟩)
    dsimp only [Pt.U, Pt.locs, Pt.cells, Pt.slots] at X22 l22 y22 z22 st22 hQ22
    subst l22 y22 z22
    obtain ⟨rfl, N22q, hq22⟩ := hQ22
    have N22 := Fr.app N20 N22q
    have pre23 : Go p e bl T22 (mkF m 18 #[rv a1, iv p1, iv (1 : Int32)] [(.int (expF c1))]) s1 EF := fun t k => pre21 t (st22 t k)
    have e22 : T22.heap = h0 := hq22
    by_cases hc18' : (expF c1) = (0 : Int32)
    · have pre24 : Go p e bl T22 (mkF m 27 #[rv a1, iv p1, iv (1 : Int32)] []) s1 EF := fun t k => pre23 t (XS.ifYes X22.here hx rfl (pc0 := 18) (pc' := 27) rfl (B d23_18) rfl ((if0 _ _).trans (teq hc18').1) (by decide) (by decide) k)
      have pre25 : Go p e bl T22 (mkF m 28 #[rv a1, iv p1, iv (1 : Int32)] [(.int (1 : Int32))]) s1 EF := fun t k => pre24 t (by
       exact XS.iloadN X22.here hx rfl (B d23_27) rfl k)
      exact fin1 X22 (v := some (.int (1 : Int32))) hrt hlk (wl rfl) (wl rfl) (by rw [e22]; exact ⟨by rw [← hR]; simp +decide [stepF, hv2_0, hc18, hc18'], N22, rfl⟩) (fun fs hr => hEF ▸ pre25 _ (retOut X22 hx Bd.returns rfl (Or.inl ⟨rfl, Or.inl rfl, _, rfl⟩) (B d23_28) hr))
    have pre26 : Go p e bl T22 (mkF m 21 #[rv a1, iv p1, iv (1 : Int32)] []) s1 EF := fun t k => pre23 t (XS.ifNo X22.here hx rfl (B d23_18) rfl ((if0 _ _).trans (feq hc18').1) k)
    have pre27 : Go p e bl T22 (mkF m 4 #[rv a1, iv p1, iv (2 : Int32)] [(.ref a1), (.int (2 : Int32))]) s1 EF := fun t k => pre26 t (by
     refine XS.iinc X22.here hx rfl (B d23_21) rfl (l' := #[rv a1, iv p1, iv (2 : Int32)]) rfl ?_
     refine XS.goto X22.here hx rfl (pc0 := 24) (pc' := 2) rfl (B d23_24) (by decide) (by decide) ?_
     refine XS.iloadN X22.here hx rfl (B d23_2) rfl ?_
     exact XS.aloadN X22.here hx rfl (B d23_3) rfl rfl k)
    obtain ⟨cq28, kq28, q28a, q28b, q28c⟩ := isOf hZ e22 SF.exa
    obtain ⟨_, _, ⟨T28, L28, k28, n28⟩, -, X28, ⟨Lc28, hQ28, l28, y28, z28⟩, st28⟩ := X22.virtualBack hx (y := mN1) (z := mN1) hown (mvT hZ (hw _ (mW 32 rfl))) (mvT hZ (hw _ (mW 33 rfl))) (notFace_of_selects (args := #[]) (mvT hZ (hw _ (mW 35 rfl)))) (mvT hZ (hw _ (mW 35 rfl))) (mvT hZ (hw _ (mW 34 rfl))) (by decide) (backOf (W := 1) (rmJL l Z a0 hw [] a1 cz fv [c0, c1, c2] (3 : Int32) h0 n0 Z0 O0 J0 SF (by rfl)) hZ (hw _ (mW 36 rfl)) (hw _ (mW 8 rfl)) (by decide) (by decide)) q28a q28c (g := (mkF m 4 #[rv a1, iv p1, iv (2 : Int32)] [(.ref a1), (.int (2 : Int32))])) rfl (hM rfl) (Steps.refl _) (argsL := []) (rest := [(.int (2 : Int32))]) (lenOf pd15 rfl) rfl (Nat.le_of_eq rfl) (B d23_4) (fun _ _ => ⟨rfl, e22, wl rfl, wl rfl⟩)
    dsimp only [Pt.U, Pt.locs, Pt.cells, Pt.slots] at X28 l28 y28 z28 st28 hQ28
    subst l28 y28 z28
    obtain ⟨rfl, N28q, hq28⟩ := hQ28
    have N28 := Fr.app N22 N28q
    have pre29 : Go p e bl T28 (mkF m 7 #[rv a1, iv p1, iv (2 : Int32)] [(.int (3 : Int32)), (.int (2 : Int32))]) s1 EF := fun t k => pre27 t (st28.trans k)
    have e28 : T28.heap = h0 := hq28
    have pre30 : Go p e bl T28 (mkF m 10 #[rv a1, iv p1, iv (2 : Int32)] []) s1 EF := fun t k => pre29 t (XS.icmpNo X28.here hx rfl (B d23_7) rfl (tlt (by decide : (2 : Int32) < (3 : Int32))).2.1 k)
    have pre31 : Go p e bl T28 (mkF m 12 #[rv a1, iv p1, iv (2 : Int32)] [(.int (2 : Int32)), (.ref a1)]) s1 EF := fun t k => pre30 t (by
     refine XS.aloadN X28.here hx rfl (B d23_10) rfl rfl ?_
     exact XS.iloadN X28.here hx rfl (B d23_11) rfl k)
    obtain ⟨cq32, kq32, q32a, q32b, q32c⟩ := isOf hZ e28 SF.exa
    obtain ⟨_, _, ⟨T32, L32, k32, n32⟩, -, X32, ⟨Lc32, hQ32, l32, y32, z32⟩, st32⟩ := X28.virtualBack hx (y := mN10) (z := mN10) hown (mvT hZ (hw _ (mW 56 rfl))) (mvT hZ (hw _ (mW 57 rfl))) (notFace_of_selects (args := #[]) (mvT hZ (hw _ (mW 59 rfl)))) (mvT hZ (hw _ (mW 59 rfl))) (mvT hZ (hw _ (mW 58 rfl))) (by decide) (backOf (W := 0) (rmJC l Z a0 hw [] a1 (2 : Int32) cz fv [c0, c1, c2] c2 h0 n0 Z0 O0 J0 SF (by decide) rfl) hZ (hw _ (mW 60 rfl)) (hw _ (mW 8 rfl)) (by decide) (by decide)) q32a q32c (g := (mkF m 12 #[rv a1, iv p1, iv (2 : Int32)] [(.int (2 : Int32)), (.ref a1)])) rfl (hM rfl) (Steps.refl _) (argsL := [(.int (2 : Int32))]) (rest := []) (lenOf pd16 rfl) rfl (Nat.le_of_eq rfl) (B d23_12) (fun _ _ => ⟨rfl, e28, wl rfl, wl rfl⟩)
    dsimp only [Pt.U, Pt.locs, Pt.cells, Pt.slots] at X32 l32 y32 z32 st32 hQ32
    subst l32 y32 z32
    obtain ⟨rfl, N32q, hq32⟩ := hQ32
    have N32 := Fr.app N28 N32q
    have pre33 : Go p e bl T32 (mkF m 15 #[rv a1, iv p1, iv (2 : Int32)] [(.int c2)]) s1 EF := fun t k => pre31 t (st32.trans k)
    have e32 : T32.heap = h0 := hq32
    obtain ⟨_, _, ⟨T34, L34, k34, n34⟩, -, X34, ⟨Lc34, hQ34, l34, y34, z34⟩, st34⟩ := Jvm.LawKit.callS X32 hx (y := mN20) hown (mvT hZ (hw _ (mW 78 rfl))) (mvT hZ (hw _ (mW 79 rfl))) (mvT hZ (hw _ (mW 30 rfl))) (mvT hZ (hw _ (mW 80 rfl))) (by decide) (backOf (W := 0) (rmT l Z a0 hw [] c2 ta cl (expF c2) h0 n0 Z0 (S0.ext O0.2) (TB.ext O0.2) (own_eq cl HT c2)) hZ (hw _ (mW 80 rfl)) (hw _ (mW 30 rfl)) (by decide) (by decide)) (g := (mkF m 15 #[rv a1, iv p1, iv (2 : Int32)] [(.int c2)])) rfl (hM rfl) (argsL := [(.int c2)]) (rest := []) (lenOf pd17 rfl) rfl (Nat.le_of_eq rfl) (B d23_15) (fun _ _ => ⟨rfl, e32, wl rfl, wl rfl⟩)
    dsimp only [Pt.U, Pt.locs, Pt.cells, Pt.slots] at X34 l34 y34 z34 st34 hQ34
    subst l34 y34 z34
    obtain ⟨rfl, N34q, hq34⟩ := hQ34
    have N34 := Fr.app N32 N34q
    have pre35 : Go p e bl T34 (mkF m 18 #[rv a1, iv p1, iv (2 : Int32)] [(.int (expF c2))]) s1 EF := fun t k => pre33 t (st34 t k)
    have e34 : T34.heap = h0 := hq34
    by_cases hc18'' : (expF c2) = (0 : Int32)
    · have pre36 : Go p e bl T34 (mkF m 27 #[rv a1, iv p1, iv (2 : Int32)] []) s1 EF := fun t k => pre35 t (XS.ifYes X34.here hx rfl (pc0 := 18) (pc' := 27) rfl (B d23_18) rfl ((if0 _ _).trans (teq hc18'').1) (by decide) (by decide) k)
      have pre37 : Go p e bl T34 (mkF m 28 #[rv a1, iv p1, iv (2 : Int32)] [(.int (2 : Int32))]) s1 EF := fun t k => pre36 t (by
       exact XS.iloadN X34.here hx rfl (B d23_27) rfl k)
      exact fin1 X34 (v := some (.int (2 : Int32))) hrt hlk (wl rfl) (wl rfl) (by rw [e34]; exact ⟨by rw [← hR]; simp +decide [stepF, hv2_0, hc18, hc18', hc18''], N34, rfl⟩) (fun fs hr => hEF ▸ pre37 _ (retOut X34 hx Bd.returns rfl (Or.inl ⟨rfl, Or.inl rfl, _, rfl⟩) (B d23_28) hr))
    have pre38 : Go p e bl T34 (mkF m 21 #[rv a1, iv p1, iv (2 : Int32)] []) s1 EF := fun t k => pre35 t (XS.ifNo X34.here hx rfl (B d23_18) rfl ((if0 _ _).trans (feq hc18'').1) k)
    have pre39 : Go p e bl T34 (mkF m 4 #[rv a1, iv p1, iv (3 : Int32)] [(.ref a1), (.int (3 : Int32))]) s1 EF := fun t k => pre38 t (by
     refine XS.iinc X34.here hx rfl (B d23_21) rfl (l' := #[rv a1, iv p1, iv (3 : Int32)]) rfl ?_
     refine XS.goto X34.here hx rfl (pc0 := 24) (pc' := 2) rfl (B d23_24) (by decide) (by decide) ?_
     refine XS.iloadN X34.here hx rfl (B d23_2) rfl ?_
     exact XS.aloadN X34.here hx rfl (B d23_3) rfl rfl k)
    obtain ⟨cq40, kq40, q40a, q40b, q40c⟩ := isOf hZ e34 SF.exa
    obtain ⟨_, _, ⟨T40, L40, k40, n40⟩, -, X40, ⟨Lc40, hQ40, l40, y40, z40⟩, st40⟩ := X34.virtualBack hx (y := mN1) (z := mN1) hown (mvT hZ (hw _ (mW 32 rfl))) (mvT hZ (hw _ (mW 33 rfl))) (notFace_of_selects (args := #[]) (mvT hZ (hw _ (mW 35 rfl)))) (mvT hZ (hw _ (mW 35 rfl))) (mvT hZ (hw _ (mW 34 rfl))) (by decide) (backOf (W := 1) (rmJL l Z a0 hw [] a1 cz fv [c0, c1, c2] (3 : Int32) h0 n0 Z0 O0 J0 SF (by rfl)) hZ (hw _ (mW 36 rfl)) (hw _ (mW 8 rfl)) (by decide) (by decide)) q40a q40c (g := (mkF m 4 #[rv a1, iv p1, iv (3 : Int32)] [(.ref a1), (.int (3 : Int32))])) rfl (hM rfl) (Steps.refl _) (argsL := []) (rest := [(.int (3 : Int32))]) (lenOf pd15 rfl) rfl (Nat.le_of_eq rfl) (B d23_4) (fun _ _ => ⟨rfl, e34, wl rfl, wl rfl⟩)
    dsimp only [Pt.U, Pt.locs, Pt.cells, Pt.slots] at X40 l40 y40 z40 st40 hQ40
    subst l40 y40 z40
    obtain ⟨rfl, N40q, hq40⟩ := hQ40
    have N40 := Fr.app N34 N40q
    have pre41 : Go p e bl T40 (mkF m 7 #[rv a1, iv p1, iv (3 : Int32)] [(.int (3 : Int32)), (.int (3 : Int32))]) s1 EF := fun t k => pre39 t (st40.trans k)
    have e40 : T40.heap = h0 := hq40
    have pre42 : Go p e bl T40 (mkF m 27 #[rv a1, iv p1, iv (3 : Int32)] []) s1 EF := fun t k => pre41 t (XS.icmpYes X40.here hx rfl (pc0 := 7) (pc' := 27) rfl (B d23_7) rfl (flt (by decide : ¬ ((3 : Int32) < (3 : Int32)))).2.1 (by decide) (by decide) k)
    have pre43 : Go p e bl T40 (mkF m 28 #[rv a1, iv p1, iv (3 : Int32)] [(.int (3 : Int32))]) s1 EF := fun t k => pre42 t (by
     exact XS.iloadN X40.here hx rfl (B d23_27) rfl k)
    exact fin1 X40 (v := some (.int (3 : Int32))) hrt hlk (wl rfl) (wl rfl) (by rw [e40]; exact ⟨by rw [← hR]; simp +decide [stepF, hv2_0, hc18, hc18', hc18''], N40, rfl⟩) (fun fs hr => hEF ▸ pre43 _ (retOut X40 hx Bd.returns rfl (Or.inl ⟨rfl, Or.inl rfl, _, rfl⟩) (B d23_28) hr))
  · have pre44 : Go p e bl s1 (mkF m 4 #[rv a1, iv p1, iv (1 : Int32)] [(.ref a1), (.int (1 : Int32))]) s1 EF := fun t k => pre1 t (by
     refine XS.istoreN X0.here hx rfl (B d23_1) rfl (l' := #[rv a1, iv p1, iv (1 : Int32)]) (by rw [hv2_1]; rfl) ?_
     refine XS.iloadN X0.here hx rfl (B d23_2) rfl ?_
     exact XS.aloadN X0.here hx rfl (B d23_3) rfl rfl k)
    obtain ⟨cq45, kq45, q45a, q45b, q45c⟩ := isOf hZ e0 SF.exa
    obtain ⟨_, _, ⟨T45, L45, k45, n45⟩, -, X45, ⟨Lc45, hQ45, l45, y45, z45⟩, st45⟩ := X0.virtualBack hx (y := mN1) (z := mN1) hown (mvT hZ (hw _ (mW 32 rfl))) (mvT hZ (hw _ (mW 33 rfl))) (notFace_of_selects (args := #[]) (mvT hZ (hw _ (mW 35 rfl)))) (mvT hZ (hw _ (mW 35 rfl))) (mvT hZ (hw _ (mW 34 rfl))) (by decide) (backOf (W := 1) (rmJL l Z a0 hw [] a1 cz fv [c0, c1, c2] (3 : Int32) h0 n0 Z0 O0 J0 SF (by rfl)) hZ (hw _ (mW 36 rfl)) (hw _ (mW 8 rfl)) (by decide) (by decide)) q45a q45c (g := (mkF m 4 #[rv a1, iv p1, iv (1 : Int32)] [(.ref a1), (.int (1 : Int32))])) rfl (hM rfl) (Steps.refl _) (argsL := []) (rest := [(.int (1 : Int32))]) (lenOf pd15 rfl) rfl (Nat.le_of_eq rfl) (B d23_4) (fun _ _ => ⟨rfl, e0, wl rfl, wl rfl⟩)
    dsimp only [Pt.U, Pt.locs, Pt.cells, Pt.slots] at X45 l45 y45 z45 st45 hQ45
    subst l45 y45 z45
    obtain ⟨rfl, N45q, hq45⟩ := hQ45
    have N45 := Fr.app N0 N45q
    have pre46 : Go p e bl T45 (mkF m 7 #[rv a1, iv p1, iv (1 : Int32)] [(.int (3 : Int32)), (.int (1 : Int32))]) s1 EF := fun t k => pre44 t (st45.trans k)
    have e45 : T45.heap = h0 := hq45
    have pre47 : Go p e bl T45 (mkF m 10 #[rv a1, iv p1, iv (1 : Int32)] []) s1 EF := fun t k => pre46 t (XS.icmpNo X45.here hx rfl (B d23_7) rfl (tlt (by decide : (1 : Int32) < (3 : Int32))).2.1 k)
    have pre48 : Go p e bl T45 (mkF m 12 #[rv a1, iv p1, iv (1 : Int32)] [(.int (1 : Int32)), (.ref a1)]) s1 EF := fun t k => pre47 t (by
     refine XS.aloadN X45.here hx rfl (B d23_10) rfl rfl ?_
     exact XS.iloadN X45.here hx rfl (B d23_11) rfl k)
    obtain ⟨cq49, kq49, q49a, q49b, q49c⟩ := isOf hZ e45 SF.exa
    obtain ⟨_, _, ⟨T49, L49, k49, n49⟩, -, X49, ⟨Lc49, hQ49, l49, y49, z49⟩, st49⟩ := X45.virtualBack hx (y := mN10) (z := mN10) hown (mvT hZ (hw _ (mW 56 rfl))) (mvT hZ (hw _ (mW 57 rfl))) (notFace_of_selects (args := #[]) (mvT hZ (hw _ (mW 59 rfl)))) (mvT hZ (hw _ (mW 59 rfl))) (mvT hZ (hw _ (mW 58 rfl))) (by decide) (backOf (W := 0) (rmJC l Z a0 hw [] a1 (1 : Int32) cz fv [c0, c1, c2] c1 h0 n0 Z0 O0 J0 SF (by decide) rfl) hZ (hw _ (mW 60 rfl)) (hw _ (mW 8 rfl)) (by decide) (by decide)) q49a q49c (g := (mkF m 12 #[rv a1, iv p1, iv (1 : Int32)] [(.int (1 : Int32)), (.ref a1)])) rfl (hM rfl) (Steps.refl _) (argsL := [(.int (1 : Int32))]) (rest := []) (lenOf pd16 rfl) rfl (Nat.le_of_eq rfl) (B d23_12) (fun _ _ => ⟨rfl, e45, wl rfl, wl rfl⟩)
    dsimp only [Pt.U, Pt.locs, Pt.cells, Pt.slots] at X49 l49 y49 z49 st49 hQ49
    subst l49 y49 z49
    obtain ⟨rfl, N49q, hq49⟩ := hQ49
    have N49 := Fr.app N45 N49q
    have pre50 : Go p e bl T49 (mkF m 15 #[rv a1, iv p1, iv (1 : Int32)] [(.int c1)]) s1 EF := fun t k => pre48 t (st49.trans k)
    have e49 : T49.heap = h0 := hq49
    obtain ⟨_, _, ⟨T51, L51, k51, n51⟩, -, X51, ⟨Lc51, hQ51, l51, y51, z51⟩, st51⟩ := Jvm.LawKit.callS X49 hx (y := mN20) hown (mvT hZ (hw _ (mW 78 rfl))) (mvT hZ (hw _ (mW 79 rfl))) (mvT hZ (hw _ (mW 30 rfl))) (mvT hZ (hw _ (mW 80 rfl))) (by decide) (backOf (W := 0) (rmT l Z a0 hw [] c1 ta cl (expF c1) h0 n0 Z0 (S0.ext O0.2) (TB.ext O0.2) (own_eq cl HT c1)) hZ (hw _ (mW 80 rfl)) (hw _ (mW 30 rfl)) (by decide) (by decide)) (g := (mkF m 15 #[rv a1, iv p1, iv (1 : Int32)] [(.int c1)])) rfl (hM rfl) (argsL := [(.int c1)]) (rest := []) (lenOf pd17 rfl) rfl (Nat.le_of_eq rfl) (B d23_15) (fun _ _ => ⟨rfl, e49, wl rfl, wl rfl⟩)
    dsimp only [Pt.U, Pt.locs, Pt.cells, Pt.slots] at X51 l51 y51 z51 st51 hQ51
    subst l51 y51 z51
    obtain ⟨rfl, N51q, hq51⟩ := hQ51
    have N51 := Fr.app N49 N51q
    have pre52 : Go p e bl T51 (mkF m 18 #[rv a1, iv p1, iv (1 : Int32)] [(.int (expF c1))]) s1 EF := fun t k => pre50 t (st51 t k)
    have e51 : T51.heap = h0 := hq51
    by_cases hc18 : (expF c1) = (0 : Int32)
    · have pre53 : Go p e bl T51 (mkF m 27 #[rv a1, iv p1, iv (1 : Int32)] []) s1 EF := fun t k => pre52 t (XS.ifYes X51.here hx rfl (pc0 := 18) (pc' := 27) rfl (B d23_18) rfl ((if0 _ _).trans (teq hc18).1) (by decide) (by decide) k)
      have pre54 : Go p e bl T51 (mkF m 28 #[rv a1, iv p1, iv (1 : Int32)] [(.int (1 : Int32))]) s1 EF := fun t k => pre53 t (by
       exact XS.iloadN X51.here hx rfl (B d23_27) rfl k)
      exact fin1 X51 (v := some (.int (1 : Int32))) hrt hlk (wl rfl) (wl rfl) (by rw [e51]; exact ⟨by rw [← hR]; simp +decide [stepF, hv2_1, hc18], N51, rfl⟩) (fun fs hr => hEF ▸ pre54 _ (retOut X51 hx Bd.returns rfl (Or.inl ⟨rfl, Or.inl rfl, _, rfl⟩) (B d23_28) hr))
    have pre55 : Go p e bl T51 (mkF m 21 #[rv a1, iv p1, iv (1 : Int32)] []) s1 EF := fun t k => pre52 t (XS.ifNo X51.here hx rfl (B d23_18) rfl ((if0 _ _).trans (feq hc18).1) k)
    have pre56 : Go p e bl T51 (mkF m 4 #[rv a1, iv p1, iv (2 : Int32)] [(.ref a1), (.int (2 : Int32))]) s1 EF := fun t k => pre55 t (by
     refine XS.iinc X51.here hx rfl (B d23_21) rfl (l' := #[rv a1, iv p1, iv (2 : Int32)]) rfl ?_
     refine XS.goto X51.here hx rfl (pc0 := 24) (pc' := 2) rfl (B d23_24) (by decide) (by decide) ?_
     refine XS.iloadN X51.here hx rfl (B d23_2) rfl ?_
     exact XS.aloadN X51.here hx rfl (B d23_3) rfl rfl k)
    obtain ⟨cq57, kq57, q57a, q57b, q57c⟩ := isOf hZ e51 SF.exa
    obtain ⟨_, _, ⟨T57, L57, k57, n57⟩, -, X57, ⟨Lc57, hQ57, l57, y57, z57⟩, st57⟩ := X51.virtualBack hx (y := mN1) (z := mN1) hown (mvT hZ (hw _ (mW 32 rfl))) (mvT hZ (hw _ (mW 33 rfl))) (notFace_of_selects (args := #[]) (mvT hZ (hw _ (mW 35 rfl)))) (mvT hZ (hw _ (mW 35 rfl))) (mvT hZ (hw _ (mW 34 rfl))) (by decide) (backOf (W := 1) (rmJL l Z a0 hw [] a1 cz fv [c0, c1, c2] (3 : Int32) h0 n0 Z0 O0 J0 SF (by rfl)) hZ (hw _ (mW 36 rfl)) (hw _ (mW 8 rfl)) (by decide) (by decide)) q57a q57c (g := (mkF m 4 #[rv a1, iv p1, iv (2 : Int32)] [(.ref a1), (.int (2 : Int32))])) rfl (hM rfl) (Steps.refl _) (argsL := []) (rest := [(.int (2 : Int32))]) (lenOf pd15 rfl) rfl (Nat.le_of_eq rfl) (B d23_4) (fun _ _ => ⟨rfl, e51, wl rfl, wl rfl⟩)
    dsimp only [Pt.U, Pt.locs, Pt.cells, Pt.slots] at X57 l57 y57 z57 st57 hQ57
    subst l57 y57 z57
    obtain ⟨rfl, N57q, hq57⟩ := hQ57
    have N57 := Fr.app N51 N57q
    have pre58 : Go p e bl T57 (mkF m 7 #[rv a1, iv p1, iv (2 : Int32)] [(.int (3 : Int32)), (.int (2 : Int32))]) s1 EF := fun t k => pre56 t (st57.trans k)
    have e57 : T57.heap = h0 := hq57
    have pre59 : Go p e bl T57 (mkF m 10 #[rv a1, iv p1, iv (2 : Int32)] []) s1 EF := fun t k => pre58 t (XS.icmpNo X57.here hx rfl (B d23_7) rfl (tlt (by decide : (2 : Int32) < (3 : Int32))).2.1 k)
    have pre60 : Go p e bl T57 (mkF m 12 #[rv a1, iv p1, iv (2 : Int32)] [(.int (2 : Int32)), (.ref a1)]) s1 EF := fun t k => pre59 t (by
     refine XS.aloadN X57.here hx rfl (B d23_10) rfl rfl ?_
     exact XS.iloadN X57.here hx rfl (B d23_11) rfl k)
    obtain ⟨cq61, kq61, q61a, q61b, q61c⟩ := isOf hZ e57 SF.exa
    obtain ⟨_, _, ⟨T61, L61, k61, n61⟩, -, X61, ⟨Lc61, hQ61, l61, y61, z61⟩, st61⟩ := X57.virtualBack hx (y := mN10) (z := mN10) hown (mvT hZ (hw _ (mW 56 rfl))) (mvT hZ (hw _ (mW 57 rfl))) (notFace_of_selects (args := #[]) (mvT hZ (hw _ (mW 59 rfl)))) (mvT hZ (hw _ (mW 59 rfl))) (mvT hZ (hw _ (mW 58 rfl))) (by decide) (backOf (W := 0) (rmJC l Z a0 hw [] a1 (2 : Int32) cz fv [c0, c1, c2] c2 h0 n0 Z0 O0 J0 SF (by decide) rfl) hZ (hw _ (mW 60 rfl)) (hw _ (mW 8 rfl)) (by decide) (by decide)) q61a q61c (g := (mkF m 12 #[rv a1, iv p1, iv (2 : Int32)] [(.int (2 : Int32)), (.ref a1)])) rfl (hM rfl) (Steps.refl _) (argsL := [(.int (2 : Int32))]) (rest := []) (lenOf pd16 rfl) rfl (Nat.le_of_eq rfl) (B d23_12) (fun _ _ => ⟨rfl, e57, wl rfl, wl rfl⟩)
    dsimp only [Pt.U, Pt.locs, Pt.cells, Pt.slots] at X61 l61 y61 z61 st61 hQ61
    subst l61 y61 z61
    obtain ⟨rfl, N61q, hq61⟩ := hQ61
    have N61 := Fr.app N57 N61q
    have pre62 : Go p e bl T61 (mkF m 15 #[rv a1, iv p1, iv (2 : Int32)] [(.int c2)]) s1 EF := fun t k => pre60 t (st61.trans k)
    have e61 : T61.heap = h0 := hq61
    obtain ⟨_, _, ⟨T63, L63, k63, n63⟩, -, X63, ⟨Lc63, hQ63, l63, y63, z63⟩, st63⟩ := Jvm.LawKit.callS X61 hx (y := mN20) hown (mvT hZ (hw _ (mW 78 rfl))) (mvT hZ (hw _ (mW 79 rfl))) (mvT hZ (hw _ (mW 30 rfl))) (mvT hZ (hw _ (mW 80 rfl))) (by decide) (backOf (W := 0) (rmT l Z a0 hw [] c2 ta cl (expF c2) h0 n0 Z0 (S0.ext O0.2) (TB.ext O0.2) (own_eq cl HT c2)) hZ (hw _ (mW 80 rfl)) (hw _ (mW 30 rfl)) (by decide) (by decide)) (g := (mkF m 15 #[rv a1, iv p1, iv (2 : Int32)] [(.int c2)])) rfl (hM rfl) (argsL := [(.int c2)]) (rest := []) (lenOf pd17 rfl) rfl (Nat.le_of_eq rfl) (B d23_15) (fun _ _ => ⟨rfl, e61, wl rfl, wl rfl⟩)
    dsimp only [Pt.U, Pt.locs, Pt.cells, Pt.slots] at X63 l63 y63 z63 st63 hQ63
    subst l63 y63 z63
    obtain ⟨rfl, N63q, hq63⟩ := hQ63
    have N63 := Fr.app N61 N63q
    have pre64 : Go p e bl T63 (mkF m 18 #[rv a1, iv p1, iv (2 : Int32)] [(.int (expF c2))]) s1 EF := fun t k => pre62 t (st63 t k)
    have e63 : T63.heap = h0 := hq63
    by_cases hc18' : (expF c2) = (0 : Int32)
    · have pre65 : Go p e bl T63 (mkF m 27 #[rv a1, iv p1, iv (2 : Int32)] []) s1 EF := fun t k => pre64 t (XS.ifYes X63.here hx rfl (pc0 := 18) (pc' := 27) rfl (B d23_18) rfl ((if0 _ _).trans (teq hc18').1) (by decide) (by decide) k)
      have pre66 : Go p e bl T63 (mkF m 28 #[rv a1, iv p1, iv (2 : Int32)] [(.int (2 : Int32))]) s1 EF := fun t k => pre65 t (by
       exact XS.iloadN X63.here hx rfl (B d23_27) rfl k)
      exact fin1 X63 (v := some (.int (2 : Int32))) hrt hlk (wl rfl) (wl rfl) (by rw [e63]; exact ⟨by rw [← hR]; simp +decide [stepF, hv2_1, hc18, hc18'], N63, rfl⟩) (fun fs hr => hEF ▸ pre66 _ (retOut X63 hx Bd.returns rfl (Or.inl ⟨rfl, Or.inl rfl, _, rfl⟩) (B d23_28) hr))
    have pre67 : Go p e bl T63 (mkF m 21 #[rv a1, iv p1, iv (2 : Int32)] []) s1 EF := fun t k => pre64 t (XS.ifNo X63.here hx rfl (B d23_18) rfl ((if0 _ _).trans (feq hc18').1) k)
    have pre68 : Go p e bl T63 (mkF m 4 #[rv a1, iv p1, iv (3 : Int32)] [(.ref a1), (.int (3 : Int32))]) s1 EF := fun t k => pre67 t (by
     refine XS.iinc X63.here hx rfl (B d23_21) rfl (l' := #[rv a1, iv p1, iv (3 : Int32)]) rfl ?_
     refine XS.goto X63.here hx rfl (pc0 := 24) (pc' := 2) rfl (B d23_24) (by decide) (by decide) ?_
     refine XS.iloadN X63.here hx rfl (B d23_2) rfl ?_
     exact XS.aloadN X63.here hx rfl (B d23_3) rfl rfl k)
    obtain ⟨cq69, kq69, q69a, q69b, q69c⟩ := isOf hZ e63 SF.exa
    obtain ⟨_, _, ⟨T69, L69, k69, n69⟩, -, X69, ⟨Lc69, hQ69, l69, y69, z69⟩, st69⟩ := X63.virtualBack hx (y := mN1) (z := mN1) hown (mvT hZ (hw _ (mW 32 rfl))) (mvT hZ (hw _ (mW 33 rfl))) (notFace_of_selects (args := #[]) (mvT hZ (hw _ (mW 35 rfl)))) (mvT hZ (hw _ (mW 35 rfl))) (mvT hZ (hw _ (mW 34 rfl))) (by decide) (backOf (W := 1) (rmJL l Z a0 hw [] a1 cz fv [c0, c1, c2] (3 : Int32) h0 n0 Z0 O0 J0 SF (by rfl)) hZ (hw _ (mW 36 rfl)) (hw _ (mW 8 rfl)) (by decide) (by decide)) q69a q69c (g := (mkF m 4 #[rv a1, iv p1, iv (3 : Int32)] [(.ref a1), (.int (3 : Int32))])) rfl (hM rfl) (Steps.refl _) (argsL := []) (rest := [(.int (3 : Int32))]) (lenOf pd15 rfl) rfl (Nat.le_of_eq rfl) (B d23_4) (fun _ _ => ⟨rfl, e63, wl rfl, wl rfl⟩)
    dsimp only [Pt.U, Pt.locs, Pt.cells, Pt.slots] at X69 l69 y69 z69 st69 hQ69
    subst l69 y69 z69
    obtain ⟨rfl, N69q, hq69⟩ := hQ69
    have N69 := Fr.app N63 N69q
    have pre70 : Go p e bl T69 (mkF m 7 #[rv a1, iv p1, iv (3 : Int32)] [(.int (3 : Int32)), (.int (3 : Int32))]) s1 EF := fun t k => pre68 t (st69.trans k)
    have e69 : T69.heap = h0 := hq69
    have pre71 : Go p e bl T69 (mkF m 27 #[rv a1, iv p1, iv (3 : Int32)] []) s1 EF := fun t k => pre70 t (XS.icmpYes X69.here hx rfl (pc0 := 7) (pc' := 27) rfl (B d23_7) rfl (flt (by decide : ¬ ((3 : Int32) < (3 : Int32)))).2.1 (by decide) (by decide) k)
    have pre72 : Go p e bl T69 (mkF m 28 #[rv a1, iv p1, iv (3 : Int32)] [(.int (3 : Int32))]) s1 EF := fun t k => pre71 t (by
     exact XS.iloadN X69.here hx rfl (B d23_27) rfl k)
    exact fin1 X69 (v := some (.int (3 : Int32))) hrt hlk (wl rfl) (wl rfl) (by rw [e69]; exact ⟨by rw [← hR]; simp +decide [stepF, hv2_1, hc18, hc18'], N69, rfl⟩) (fun fs hr => hEF ▸ pre72 _ (retOut X69 hx Bd.returns rfl (Or.inl ⟨rfl, Or.inl rfl, _, rfl⟩) (B d23_28) hr))
  · have pre73 : Go p e bl s1 (mkF m 4 #[rv a1, iv p1, iv (2 : Int32)] [(.ref a1), (.int (2 : Int32))]) s1 EF := fun t k => pre1 t (by
     refine XS.istoreN X0.here hx rfl (B d23_1) rfl (l' := #[rv a1, iv p1, iv (2 : Int32)]) (by rw [hv2_2]; rfl) ?_
     refine XS.iloadN X0.here hx rfl (B d23_2) rfl ?_
     exact XS.aloadN X0.here hx rfl (B d23_3) rfl rfl k)
    obtain ⟨cq74, kq74, q74a, q74b, q74c⟩ := isOf hZ e0 SF.exa
    obtain ⟨_, _, ⟨T74, L74, k74, n74⟩, -, X74, ⟨Lc74, hQ74, l74, y74, z74⟩, st74⟩ := X0.virtualBack hx (y := mN1) (z := mN1) hown (mvT hZ (hw _ (mW 32 rfl))) (mvT hZ (hw _ (mW 33 rfl))) (notFace_of_selects (args := #[]) (mvT hZ (hw _ (mW 35 rfl)))) (mvT hZ (hw _ (mW 35 rfl))) (mvT hZ (hw _ (mW 34 rfl))) (by decide) (backOf (W := 1) (rmJL l Z a0 hw [] a1 cz fv [c0, c1, c2] (3 : Int32) h0 n0 Z0 O0 J0 SF (by rfl)) hZ (hw _ (mW 36 rfl)) (hw _ (mW 8 rfl)) (by decide) (by decide)) q74a q74c (g := (mkF m 4 #[rv a1, iv p1, iv (2 : Int32)] [(.ref a1), (.int (2 : Int32))])) rfl (hM rfl) (Steps.refl _) (argsL := []) (rest := [(.int (2 : Int32))]) (lenOf pd15 rfl) rfl (Nat.le_of_eq rfl) (B d23_4) (fun _ _ => ⟨rfl, e0, wl rfl, wl rfl⟩)
    dsimp only [Pt.U, Pt.locs, Pt.cells, Pt.slots] at X74 l74 y74 z74 st74 hQ74
    subst l74 y74 z74
    obtain ⟨rfl, N74q, hq74⟩ := hQ74
    have N74 := Fr.app N0 N74q
    have pre75 : Go p e bl T74 (mkF m 7 #[rv a1, iv p1, iv (2 : Int32)] [(.int (3 : Int32)), (.int (2 : Int32))]) s1 EF := fun t k => pre73 t (st74.trans k)
    have e74 : T74.heap = h0 := hq74
    have pre76 : Go p e bl T74 (mkF m 10 #[rv a1, iv p1, iv (2 : Int32)] []) s1 EF := fun t k => pre75 t (XS.icmpNo X74.here hx rfl (B d23_7) rfl (tlt (by decide : (2 : Int32) < (3 : Int32))).2.1 k)
    have pre77 : Go p e bl T74 (mkF m 12 #[rv a1, iv p1, iv (2 : Int32)] [(.int (2 : Int32)), (.ref a1)]) s1 EF := fun t k => pre76 t (by
     refine XS.aloadN X74.here hx rfl (B d23_10) rfl rfl ?_
     exact XS.iloadN X74.here hx rfl (B d23_11) rfl k)
    obtain ⟨cq78, kq78, q78a, q78b, q78c⟩ := isOf hZ e74 SF.exa
    obtain ⟨_, _, ⟨T78, L78, k78, n78⟩, -, X78, ⟨Lc78, hQ78, l78, y78, z78⟩, st78⟩ := X74.virtualBack hx (y := mN10) (z := mN10) hown (mvT hZ (hw _ (mW 56 rfl))) (mvT hZ (hw _ (mW 57 rfl))) (notFace_of_selects (args := #[]) (mvT hZ (hw _ (mW 59 rfl)))) (mvT hZ (hw _ (mW 59 rfl))) (mvT hZ (hw _ (mW 58 rfl))) (by decide) (backOf (W := 0) (rmJC l Z a0 hw [] a1 (2 : Int32) cz fv [c0, c1, c2] c2 h0 n0 Z0 O0 J0 SF (by decide) rfl) hZ (hw _ (mW 60 rfl)) (hw _ (mW 8 rfl)) (by decide) (by decide)) q78a q78c (g := (mkF m 12 #[rv a1, iv p1, iv (2 : Int32)] [(.int (2 : Int32)), (.ref a1)])) rfl (hM rfl) (Steps.refl _) (argsL := [(.int (2 : Int32))]) (rest := []) (lenOf pd16 rfl) rfl (Nat.le_of_eq rfl) (B d23_12) (fun _ _ => ⟨rfl, e74, wl rfl, wl rfl⟩)
    dsimp only [Pt.U, Pt.locs, Pt.cells, Pt.slots] at X78 l78 y78 z78 st78 hQ78
    subst l78 y78 z78
    obtain ⟨rfl, N78q, hq78⟩ := hQ78
    have N78 := Fr.app N74 N78q
    have pre79 : Go p e bl T78 (mkF m 15 #[rv a1, iv p1, iv (2 : Int32)] [(.int c2)]) s1 EF := fun t k => pre77 t (st78.trans k)
    have e78 : T78.heap = h0 := hq78
    obtain ⟨_, _, ⟨T80, L80, k80, n80⟩, -, X80, ⟨Lc80, hQ80, l80, y80, z80⟩, st80⟩ := Jvm.LawKit.callS X78 hx (y := mN20) hown (mvT hZ (hw _ (mW 78 rfl))) (mvT hZ (hw _ (mW 79 rfl))) (mvT hZ (hw _ (mW 30 rfl))) (mvT hZ (hw _ (mW 80 rfl))) (by decide) (backOf (W := 0) (rmT l Z a0 hw [] c2 ta cl (expF c2) h0 n0 Z0 (S0.ext O0.2) (TB.ext O0.2) (own_eq cl HT c2)) hZ (hw _ (mW 80 rfl)) (hw _ (mW 30 rfl)) (by decide) (by decide)) (g := (mkF m 15 #[rv a1, iv p1, iv (2 : Int32)] [(.int c2)])) rfl (hM rfl) (argsL := [(.int c2)]) (rest := []) (lenOf pd17 rfl) rfl (Nat.le_of_eq rfl) (B d23_15) (fun _ _ => ⟨rfl, e78, wl rfl, wl rfl⟩)
    dsimp only [Pt.U, Pt.locs, Pt.cells, Pt.slots] at X80 l80 y80 z80 st80 hQ80
    subst l80 y80 z80
    obtain ⟨rfl, N80q, hq80⟩ := hQ80
    have N80 := Fr.app N78 N80q
    have pre81 : Go p e bl T80 (mkF m 18 #[rv a1, iv p1, iv (2 : Int32)] [(.int (expF c2))]) s1 EF := fun t k => pre79 t (st80 t k)
    have e80 : T80.heap = h0 := hq80
    by_cases hc18 : (expF c2) = (0 : Int32)
    · have pre82 : Go p e bl T80 (mkF m 27 #[rv a1, iv p1, iv (2 : Int32)] []) s1 EF := fun t k => pre81 t (XS.ifYes X80.here hx rfl (pc0 := 18) (pc' := 27) rfl (B d23_18) rfl ((if0 _ _).trans (teq hc18).1) (by decide) (by decide) k)
      have pre83 : Go p e bl T80 (mkF m 28 #[rv a1, iv p1, iv (2 : Int32)] [(.int (2 : Int32))]) s1 EF := fun t k => pre82 t (by
       exact XS.iloadN X80.here hx rfl (B d23_27) rfl k)
      exact fin1 X80 (v := some (.int (2 : Int32))) hrt hlk (wl rfl) (wl rfl) (by rw [e80]; exact ⟨by rw [← hR]; simp +decide [stepF, hv2_2, hc18], N80, rfl⟩) (fun fs hr => hEF ▸ pre83 _ (retOut X80 hx Bd.returns rfl (Or.inl ⟨rfl, Or.inl rfl, _, rfl⟩) (B d23_28) hr))
    have pre84 : Go p e bl T80 (mkF m 21 #[rv a1, iv p1, iv (2 : Int32)] []) s1 EF := fun t k => pre81 t (XS.ifNo X80.here hx rfl (B d23_18) rfl ((if0 _ _).trans (feq hc18).1) k)
    have pre85 : Go p e bl T80 (mkF m 4 #[rv a1, iv p1, iv (3 : Int32)] [(.ref a1), (.int (3 : Int32))]) s1 EF := fun t k => pre84 t (by
     refine XS.iinc X80.here hx rfl (B d23_21) rfl (l' := #[rv a1, iv p1, iv (3 : Int32)]) rfl ?_
     refine XS.goto X80.here hx rfl (pc0 := 24) (pc' := 2) rfl (B d23_24) (by decide) (by decide) ?_
     refine XS.iloadN X80.here hx rfl (B d23_2) rfl ?_
     exact XS.aloadN X80.here hx rfl (B d23_3) rfl rfl k)
    obtain ⟨cq86, kq86, q86a, q86b, q86c⟩ := isOf hZ e80 SF.exa
    obtain ⟨_, _, ⟨T86, L86, k86, n86⟩, -, X86, ⟨Lc86, hQ86, l86, y86, z86⟩, st86⟩ := X80.virtualBack hx (y := mN1) (z := mN1) hown (mvT hZ (hw _ (mW 32 rfl))) (mvT hZ (hw _ (mW 33 rfl))) (notFace_of_selects (args := #[]) (mvT hZ (hw _ (mW 35 rfl)))) (mvT hZ (hw _ (mW 35 rfl))) (mvT hZ (hw _ (mW 34 rfl))) (by decide) (backOf (W := 1) (rmJL l Z a0 hw [] a1 cz fv [c0, c1, c2] (3 : Int32) h0 n0 Z0 O0 J0 SF (by rfl)) hZ (hw _ (mW 36 rfl)) (hw _ (mW 8 rfl)) (by decide) (by decide)) q86a q86c (g := (mkF m 4 #[rv a1, iv p1, iv (3 : Int32)] [(.ref a1), (.int (3 : Int32))])) rfl (hM rfl) (Steps.refl _) (argsL := []) (rest := [(.int (3 : Int32))]) (lenOf pd15 rfl) rfl (Nat.le_of_eq rfl) (B d23_4) (fun _ _ => ⟨rfl, e80, wl rfl, wl rfl⟩)
    dsimp only [Pt.U, Pt.locs, Pt.cells, Pt.slots] at X86 l86 y86 z86 st86 hQ86
    subst l86 y86 z86
    obtain ⟨rfl, N86q, hq86⟩ := hQ86
    have N86 := Fr.app N80 N86q
    have pre87 : Go p e bl T86 (mkF m 7 #[rv a1, iv p1, iv (3 : Int32)] [(.int (3 : Int32)), (.int (3 : Int32))]) s1 EF := fun t k => pre85 t (st86.trans k)
    have e86 : T86.heap = h0 := hq86
    have pre88 : Go p e bl T86 (mkF m 27 #[rv a1, iv p1, iv (3 : Int32)] []) s1 EF := fun t k => pre87 t (XS.icmpYes X86.here hx rfl (pc0 := 7) (pc' := 27) rfl (B d23_7) rfl (flt (by decide : ¬ ((3 : Int32) < (3 : Int32)))).2.1 (by decide) (by decide) k)
    have pre89 : Go p e bl T86 (mkF m 28 #[rv a1, iv p1, iv (3 : Int32)] [(.int (3 : Int32))]) s1 EF := fun t k => pre88 t (by
     exact XS.iloadN X86.here hx rfl (B d23_27) rfl k)
    exact fin1 X86 (v := some (.int (3 : Int32))) hrt hlk (wl rfl) (wl rfl) (by rw [e86]; exact ⟨by rw [← hR]; simp +decide [stepF, hv2_2, hc18], N86, rfl⟩) (fun fs hr => hEF ▸ pre89 _ (retOut X86 hx Bd.returns rfl (Or.inl ⟨rfl, Or.inl rfl, _, rfl⟩) (B d23_28) hr))
  · have pre90 : Go p e bl s1 (mkF m 4 #[rv a1, iv p1, iv (3 : Int32)] [(.ref a1), (.int (3 : Int32))]) s1 EF := fun t k => pre1 t (by
     refine XS.istoreN X0.here hx rfl (B d23_1) rfl (l' := #[rv a1, iv p1, iv (3 : Int32)]) (by rw [hv2_3]; rfl) ?_
     refine XS.iloadN X0.here hx rfl (B d23_2) rfl ?_
     exact XS.aloadN X0.here hx rfl (B d23_3) rfl rfl k)
    obtain ⟨cq91, kq91, q91a, q91b, q91c⟩ := isOf hZ e0 SF.exa
    obtain ⟨_, _, ⟨T91, L91, k91, n91⟩, -, X91, ⟨Lc91, hQ91, l91, y91, z91⟩, st91⟩ := X0.virtualBack hx (y := mN1) (z := mN1) hown (mvT hZ (hw _ (mW 32 rfl))) (mvT hZ (hw _ (mW 33 rfl))) (notFace_of_selects (args := #[]) (mvT hZ (hw _ (mW 35 rfl)))) (mvT hZ (hw _ (mW 35 rfl))) (mvT hZ (hw _ (mW 34 rfl))) (by decide) (backOf (W := 1) (rmJL l Z a0 hw [] a1 cz fv [c0, c1, c2] (3 : Int32) h0 n0 Z0 O0 J0 SF (by rfl)) hZ (hw _ (mW 36 rfl)) (hw _ (mW 8 rfl)) (by decide) (by decide)) q91a q91c (g := (mkF m 4 #[rv a1, iv p1, iv (3 : Int32)] [(.ref a1), (.int (3 : Int32))])) rfl (hM rfl) (Steps.refl _) (argsL := []) (rest := [(.int (3 : Int32))]) (lenOf pd15 rfl) rfl (Nat.le_of_eq rfl) (B d23_4) (fun _ _ => ⟨rfl, e0, wl rfl, wl rfl⟩)
    dsimp only [Pt.U, Pt.locs, Pt.cells, Pt.slots] at X91 l91 y91 z91 st91 hQ91
    subst l91 y91 z91
    obtain ⟨rfl, N91q, hq91⟩ := hQ91
    have N91 := Fr.app N0 N91q
    have pre92 : Go p e bl T91 (mkF m 7 #[rv a1, iv p1, iv (3 : Int32)] [(.int (3 : Int32)), (.int (3 : Int32))]) s1 EF := fun t k => pre90 t (st91.trans k)
    have e91 : T91.heap = h0 := hq91
    have pre93 : Go p e bl T91 (mkF m 27 #[rv a1, iv p1, iv (3 : Int32)] []) s1 EF := fun t k => pre92 t (XS.icmpYes X91.here hx rfl (pc0 := 7) (pc' := 27) rfl (B d23_7) rfl (flt (by decide : ¬ ((3 : Int32) < (3 : Int32)))).2.1 (by decide) (by decide) k)
    have pre94 : Go p e bl T91 (mkF m 28 #[rv a1, iv p1, iv (3 : Int32)] [(.int (3 : Int32))]) s1 EF := fun t k => pre93 t (by
     exact XS.iloadN X91.here hx rfl (B d23_27) rfl k)
    exact fin1 X91 (v := some (.int (3 : Int32))) hrt hlk (wl rfl) (wl rfl) (by rw [e91]; exact ⟨by rw [← hR]; simp +decide [stepF, hv2_3], N91, rfl⟩) (fun fs hr => hEF ▸ pre94 _ (retOut X91 hx Bd.returns rfl (Or.inl ⟨rfl, Or.inl rfl, _, rfl⟩) (B d23_28) hr))
  · have pre95 : Go p e bl s1 (mkF m 4 #[rv a1, iv p1, iv (4 : Int32)] [(.ref a1), (.int (4 : Int32))]) s1 EF := fun t k => pre1 t (by
     refine XS.istoreN X0.here hx rfl (B d23_1) rfl (l' := #[rv a1, iv p1, iv (4 : Int32)]) (by rw [hv2_4]; rfl) ?_
     refine XS.iloadN X0.here hx rfl (B d23_2) rfl ?_
     exact XS.aloadN X0.here hx rfl (B d23_3) rfl rfl k)
    obtain ⟨cq96, kq96, q96a, q96b, q96c⟩ := isOf hZ e0 SF.exa
    obtain ⟨_, _, ⟨T96, L96, k96, n96⟩, -, X96, ⟨Lc96, hQ96, l96, y96, z96⟩, st96⟩ := X0.virtualBack hx (y := mN1) (z := mN1) hown (mvT hZ (hw _ (mW 32 rfl))) (mvT hZ (hw _ (mW 33 rfl))) (notFace_of_selects (args := #[]) (mvT hZ (hw _ (mW 35 rfl)))) (mvT hZ (hw _ (mW 35 rfl))) (mvT hZ (hw _ (mW 34 rfl))) (by decide) (backOf (W := 1) (rmJL l Z a0 hw [] a1 cz fv [c0, c1, c2] (3 : Int32) h0 n0 Z0 O0 J0 SF (by rfl)) hZ (hw _ (mW 36 rfl)) (hw _ (mW 8 rfl)) (by decide) (by decide)) q96a q96c (g := (mkF m 4 #[rv a1, iv p1, iv (4 : Int32)] [(.ref a1), (.int (4 : Int32))])) rfl (hM rfl) (Steps.refl _) (argsL := []) (rest := [(.int (4 : Int32))]) (lenOf pd15 rfl) rfl (Nat.le_of_eq rfl) (B d23_4) (fun _ _ => ⟨rfl, e0, wl rfl, wl rfl⟩)
    dsimp only [Pt.U, Pt.locs, Pt.cells, Pt.slots] at X96 l96 y96 z96 st96 hQ96
    subst l96 y96 z96
    obtain ⟨rfl, N96q, hq96⟩ := hQ96
    have N96 := Fr.app N0 N96q
    have pre97 : Go p e bl T96 (mkF m 7 #[rv a1, iv p1, iv (4 : Int32)] [(.int (3 : Int32)), (.int (4 : Int32))]) s1 EF := fun t k => pre95 t (st96.trans k)
    have e96 : T96.heap = h0 := hq96
    have pre98 : Go p e bl T96 (mkF m 27 #[rv a1, iv p1, iv (4 : Int32)] []) s1 EF := fun t k => pre97 t (XS.icmpYes X96.here hx rfl (pc0 := 7) (pc' := 27) rfl (B d23_7) rfl (flt (by decide : ¬ ((4 : Int32) < (3 : Int32)))).2.1 (by decide) (by decide) k)
    have pre99 : Go p e bl T96 (mkF m 28 #[rv a1, iv p1, iv (4 : Int32)] [(.int (4 : Int32))]) s1 EF := fun t k => pre98 t (by
     exact XS.iloadN X96.here hx rfl (B d23_27) rfl k)
    exact fin1 X96 (v := some (.int (4 : Int32))) hrt hlk (wl rfl) (wl rfl) (by rw [e96]; exact ⟨by rw [← hR]; simp +decide [stepF, hv2_4], N96, rfl⟩) (fun fs hr => hEF ▸ pre99 _ (retOut X96 hx Bd.returns rfl (Or.inl ⟨rfl, Or.inl rfl, _, rfl⟩) (B d23_28) hr))
  have pre100 : Go p e bl s1 (mkF m 4 #[rv a1, iv p1, iv (5 : Int32)] [(.ref a1), (.int (5 : Int32))]) s1 EF := fun t k => pre1 t (by
   refine XS.istoreN X0.here hx rfl (B d23_1) rfl (l' := #[rv a1, iv p1, iv (5 : Int32)]) (by rw [hv2_5]; rfl) ?_
   refine XS.iloadN X0.here hx rfl (B d23_2) rfl ?_
   exact XS.aloadN X0.here hx rfl (B d23_3) rfl rfl k)
  obtain ⟨cq101, kq101, q101a, q101b, q101c⟩ := isOf hZ e0 SF.exa
  obtain ⟨_, _, ⟨T101, L101, k101, n101⟩, -, X101, ⟨Lc101, hQ101, l101, y101, z101⟩, st101⟩ := X0.virtualBack hx (y := mN1) (z := mN1) hown (mvT hZ (hw _ (mW 32 rfl))) (mvT hZ (hw _ (mW 33 rfl))) (notFace_of_selects (args := #[]) (mvT hZ (hw _ (mW 35 rfl)))) (mvT hZ (hw _ (mW 35 rfl))) (mvT hZ (hw _ (mW 34 rfl))) (by decide) (backOf (W := 1) (rmJL l Z a0 hw [] a1 cz fv [c0, c1, c2] (3 : Int32) h0 n0 Z0 O0 J0 SF (by rfl)) hZ (hw _ (mW 36 rfl)) (hw _ (mW 8 rfl)) (by decide) (by decide)) q101a q101c (g := (mkF m 4 #[rv a1, iv p1, iv (5 : Int32)] [(.ref a1), (.int (5 : Int32))])) rfl (hM rfl) (Steps.refl _) (argsL := []) (rest := [(.int (5 : Int32))]) (lenOf pd15 rfl) rfl (Nat.le_of_eq rfl) (B d23_4) (fun _ _ => ⟨rfl, e0, wl rfl, wl rfl⟩)
  dsimp only [Pt.U, Pt.locs, Pt.cells, Pt.slots] at X101 l101 y101 z101 st101 hQ101
  subst l101 y101 z101
  obtain ⟨rfl, N101q, hq101⟩ := hQ101
  have N101 := Fr.app N0 N101q
  have pre102 : Go p e bl T101 (mkF m 7 #[rv a1, iv p1, iv (5 : Int32)] [(.int (3 : Int32)), (.int (5 : Int32))]) s1 EF := fun t k => pre100 t (st101.trans k)
  have e101 : T101.heap = h0 := hq101
  have pre103 : Go p e bl T101 (mkF m 27 #[rv a1, iv p1, iv (5 : Int32)] []) s1 EF := fun t k => pre102 t (XS.icmpYes X101.here hx rfl (pc0 := 7) (pc' := 27) rfl (B d23_7) rfl (flt (by decide : ¬ ((5 : Int32) < (3 : Int32)))).2.1 (by decide) (by decide) k)
  have pre104 : Go p e bl T101 (mkF m 28 #[rv a1, iv p1, iv (5 : Int32)] [(.int (5 : Int32))]) s1 EF := fun t k => pre103 t (by
   exact XS.iloadN X101.here hx rfl (B d23_27) rfl k)
  exact fin1 X101 (v := some (.int (5 : Int32))) hrt hlk (wl rfl) (wl rfl) (by rw [e101]; exact ⟨by rw [← hR]; simp +decide [stepF, hv2_5], N101, rfl⟩) (fun fs hr => hEF ▸ pre104 _ (retOut X101 hx Bd.returns rfl (Or.inl ⟨rfl, Or.inl rfl, _, rfl⟩) (B d23_28) hr))
abbrev rKK4 : Room := { frames := 5, cells := 0, slots := 0, locals := 66 }
theorem efK4 (m : MethodId) (a1 : Addr) (p1 : Int32) : entryFrame m #[(.ref a1), (.int p1)] 3 = mkF m 0 #[rv a1, iv p1, .unset] [] := by first | (simp [entryFrame, mkF, argsToLocals, Value.category]; done) | rfl
def QK4 (Z : State) (a1 : Addr) (p1 : Int32) (cz : Int32) (fv : Value) (ta : Addr) (cl : Cell) (c0 : Int32) (c1 : Int32) (c2 : Int32) (c3 : Int32) (r : Int32) (h0 : Heap) (n0 : Nat) (v : Option Value) (h : Heap) (L : List Loc) : Prop := v = some (.int r) ∧ Fr n0 L ∧ h = h0
set_option maxRecDepth 65536 in
set_option maxHeartbeats 40000000 in
theorem rmK4 (l : Launch) (Z : State) (a0 : Array Value) (hw : HW a0 Z) (ws : List Jvm.Cond) (a1 : Addr) (p1 : Int32) (cz : Int32) (fv : Value) (ta : Addr) (cl : Cell) (c0 : Int32) (c1 : Int32) (c2 : Int32) (c3 : Int32) (r : Int32) (h0 : Heap) (n0 : Nat) (Z0 : n0 ≤ h0.size) (O0 : Old Z n0 h0) (J0 : Jd Z cz fv) (S0 : Sta Z Z.heap "com/example/oxpecker/oxpecker/http/HttpInput" "TOKEN" "[Z" (.ref ta)) (TB : Tab Z Z.heap ta cl .boolean 128) (HT : ∀ j : Int32, ¬ j < 0 → j < 128 → atv cl j = expF j) (SF : Str Z h0 a1 [c0, c1, c2, c3]) (hp : p1 = 0 ∨ p1 = 1 ∨ p1 = 2 ∨ p1 = 3 ∨ p1 = 4 ∨ p1 = 5) (hR : (if p1 < (4 : Int32) then stepF 0 p1 c0 (stepF 1 p1 c1 (stepF 2 p1 c2 (stepF 3 p1 c3 (4)))) else p1) = r) :
    MF l Z mN23 prog_11_method_23_code 3 (some .int) ws rKK4 #[(.ref a1), (.int p1)] h0 (QK4 Z a1 p1 cz fv ta cl c0 c1 c2 c3 r h0 n0) := by
  refine MetFree.of_bodySF (plainFor_of_name pn4) hisR ?_
  intro p e s m args bl meth c s1 Bd hml0 hP hK
  obtain ⟨rfl, hZ, hh⟩ := hP
  have hx := Bd.exec
  have hby := Bd.bytes
  have B := @hb c _ hby
  have hM := fun {n : Nat} (h : n = 3) => h.trans hml0.symm
  have hown : s.vm.findClass "com/example/oxpecker/oxpecker/http/HttpInput" = some m.cls := findClass_of_methodNamed Bd.named
  have hlk : meth.locks = false := BodyLoose.notSynchronized Bd
  have hrt : ∀ {v : Option Value}, meth.sig.returnType = none → v = none := fun h => by rw [Bd.returns] at h; cases h
  have X0 : Stand p l e rKK4 s m #[(.ref a1), (.int p1)] bl meth c s1 [] 0 0 := Stand.of_body Bd
  have e0 : s1.heap = h0 := by rw [← hh, Bd.state]; rfl
  have N0 := Fr.nil n0
  obtain ⟨EF, hEF⟩ : ∃ f, f = entryFrame m #[(.ref a1), (.int p1)] 3 := ⟨_, rfl⟩
  have pre0 : Go p e bl s1 (mkF m 0 #[rv a1, iv p1, .unset] []) s1 EF := fun t k => by rw [hEF]; exact castTop (efK4 m a1 p1) k
  have pre1 : Go p e bl s1 (mkF m 1 #[rv a1, iv p1, .unset] [(.int p1)]) s1 EF := fun t k => pre0 t (by
   exact XS.iloadN X0.here hx rfl (B d23_0) rfl k)
  rcases hp with hv2_0 | hv2_1 | hv2_2 | hv2_3 | hv2_4 | hv2_5
  · have pre3 : Go p e bl s1 (mkF m 4 #[rv a1, iv p1, iv (0 : Int32)] [(.ref a1), (.int (0 : Int32))]) s1 EF := fun t k => pre1 t (by
     refine XS.istoreN X0.here hx rfl (B d23_1) rfl (l' := #[rv a1, iv p1, iv (0 : Int32)]) (by rw [hv2_0]; rfl) ?_
     refine XS.iloadN X0.here hx rfl (B d23_2) rfl ?_
     exact XS.aloadN X0.here hx rfl (B d23_3) rfl rfl k)
    obtain ⟨cq4, kq4, q4a, q4b, q4c⟩ := isOf hZ e0 SF.exa
    obtain ⟨_, _, ⟨T4, L4, k4, n4⟩, -, X4, ⟨Lc4, hQ4, l4, y4, z4⟩, st4⟩ := X0.virtualBack hx (y := mN1) (z := mN1) hown (mvT hZ (hw _ (mW 32 rfl))) (mvT hZ (hw _ (mW 33 rfl))) (notFace_of_selects (args := #[]) (mvT hZ (hw _ (mW 35 rfl)))) (mvT hZ (hw _ (mW 35 rfl))) (mvT hZ (hw _ (mW 34 rfl))) (by decide) (backOf (W := 1) (rmJL l Z a0 hw [] a1 cz fv [c0, c1, c2, c3] (4 : Int32) h0 n0 Z0 O0 J0 SF (by rfl)) hZ (hw _ (mW 36 rfl)) (hw _ (mW 8 rfl)) (by decide) (by decide)) q4a q4c (g := (mkF m 4 #[rv a1, iv p1, iv (0 : Int32)] [(.ref a1), (.int (0 : Int32))])) rfl (hM rfl) (Steps.refl _) (argsL := []) (rest := [(.int (0 : Int32))]) (lenOf pd15 rfl) rfl (Nat.le_of_eq rfl) (B d23_4) (fun _ _ => ⟨rfl, e0, wl rfl, wl rfl⟩)
    dsimp only [Pt.U, Pt.locs, Pt.cells, Pt.slots] at X4 l4 y4 z4 st4 hQ4
    subst l4 y4 z4
    obtain ⟨rfl, N4q, hq4⟩ := hQ4
    have N4 := Fr.app N0 N4q
    have pre5 : Go p e bl T4 (mkF m 7 #[rv a1, iv p1, iv (0 : Int32)] [(.int (4 : Int32)), (.int (0 : Int32))]) s1 EF := fun t k => pre3 t (st4.trans k)
    have e4 : T4.heap = h0 := hq4
    have pre6 : Go p e bl T4 (mkF m 10 #[rv a1, iv p1, iv (0 : Int32)] []) s1 EF := fun t k => pre5 t (XS.icmpNo X4.here hx rfl (B d23_7) rfl (tlt (by decide : (0 : Int32) < (4 : Int32))).2.1 k)
    have pre7 : Go p e bl T4 (mkF m 12 #[rv a1, iv p1, iv (0 : Int32)] [(.int (0 : Int32)), (.ref a1)]) s1 EF := fun t k => pre6 t (by
     refine XS.aloadN X4.here hx rfl (B d23_10) rfl rfl ?_
     exact XS.iloadN X4.here hx rfl (B d23_11) rfl k)
    obtain ⟨cq8, kq8, q8a, q8b, q8c⟩ := isOf hZ e4 SF.exa
    obtain ⟨_, _, ⟨T8, L8, k8, n8⟩, -, X8, ⟨Lc8, hQ8, l8, y8, z8⟩, st8⟩ := X4.virtualBack hx (y := mN10) (z := mN10) hown (mvT hZ (hw _ (mW 56 rfl))) (mvT hZ (hw _ (mW 57 rfl))) (notFace_of_selects (args := #[]) (mvT hZ (hw _ (mW 59 rfl)))) (mvT hZ (hw _ (mW 59 rfl))) (mvT hZ (hw _ (mW 58 rfl))) (by decide) (backOf (W := 0) (rmJC l Z a0 hw [] a1 (0 : Int32) cz fv [c0, c1, c2, c3] c0 h0 n0 Z0 O0 J0 SF (by decide) rfl) hZ (hw _ (mW 60 rfl)) (hw _ (mW 8 rfl)) (by decide) (by decide)) q8a q8c (g := (mkF m 12 #[rv a1, iv p1, iv (0 : Int32)] [(.int (0 : Int32)), (.ref a1)])) rfl (hM rfl) (Steps.refl _) (argsL := [(.int (0 : Int32))]) (rest := []) (lenOf pd16 rfl) rfl (Nat.le_of_eq rfl) (B d23_12) (fun _ _ => ⟨rfl, e4, wl rfl, wl rfl⟩)
    dsimp only [Pt.U, Pt.locs, Pt.cells, Pt.slots] at X8 l8 y8 z8 st8 hQ8
    subst l8 y8 z8
    obtain ⟨rfl, N8q, hq8⟩ := hQ8
    have N8 := Fr.app N4 N8q
    have pre9 : Go p e bl T8 (mkF m 15 #[rv a1, iv p1, iv (0 : Int32)] [(.int c0)]) s1 EF := fun t k => pre7 t (st8.trans k)
    have e8 : T8.heap = h0 := hq8
    obtain ⟨_, _, ⟨T10, L10, k10, n10⟩, -, X10, ⟨Lc10, hQ10, l10, y10, z10⟩, st10⟩ := Jvm.LawKit.callS X8 hx (y := mN20) hown (mvT hZ (hw _ (mW 78 rfl))) (mvT hZ (hw _ (mW 79 rfl))) (mvT hZ (hw _ (mW 30 rfl))) (mvT hZ (hw _ (mW 80 rfl))) (by decide) (backOf (W := 0) (rmT l Z a0 hw [] c0 ta cl (expF c0) h0 n0 Z0 (S0.ext O0.2) (TB.ext O0.2) (own_eq cl HT c0)) hZ (hw _ (mW 80 rfl)) (hw _ (mW 30 rfl)) (by decide) (by decide)) (g := (mkF m 15 #[rv a1, iv p1, iv (0 : Int32)] [(.int c0)])) rfl (hM rfl) (argsL := [(.int c0)]) (rest := []) (lenOf pd17 rfl) rfl (Nat.le_of_eq rfl) (B d23_15) (fun _ _ => ⟨rfl, e8, wl rfl, wl rfl⟩)
    dsimp only [Pt.U, Pt.locs, Pt.cells, Pt.slots] at X10 l10 y10 z10 st10 hQ10
    subst l10 y10 z10
    obtain ⟨rfl, N10q, hq10⟩ := hQ10
    have N10 := Fr.app N8 N10q
    have pre11 : Go p e bl T10 (mkF m 18 #[rv a1, iv p1, iv (0 : Int32)] [(.int (expF c0))]) s1 EF := fun t k => pre9 t (st10 t k)
    have e10 : T10.heap = h0 := hq10
    by_cases hc18 : (expF c0) = (0 : Int32)
    · have pre12 : Go p e bl T10 (mkF m 27 #[rv a1, iv p1, iv (0 : Int32)] []) s1 EF := fun t k => pre11 t (XS.ifYes X10.here hx rfl (pc0 := 18) (pc' := 27) rfl (B d23_18) rfl ((if0 _ _).trans (teq hc18).1) (by decide) (by decide) k)
      have pre13 : Go p e bl T10 (mkF m 28 #[rv a1, iv p1, iv (0 : Int32)] [(.int (0 : Int32))]) s1 EF := fun t k => pre12 t (by
       exact XS.iloadN X10.here hx rfl (B d23_27) rfl k)
      exact fin1 X10 (v := some (.int (0 : Int32))) hrt hlk (wl rfl) (wl rfl) (by rw [e10]; exact ⟨by rw [← hR]; simp +decide [stepF, hv2_0, hc18], N10, rfl⟩) (fun fs hr => hEF ▸ pre13 _ (retOut X10 hx Bd.returns rfl (Or.inl ⟨rfl, Or.inl rfl, _, rfl⟩) (B d23_28) hr))
    have pre14 : Go p e bl T10 (mkF m 21 #[rv a1, iv p1, iv (0 : Int32)] []) s1 EF := fun t k => pre11 t (XS.ifNo X10.here hx rfl (B d23_18) rfl ((if0 _ _).trans (feq hc18).1) k)
    have pre15 : Go p e bl T10 (mkF m 4 #[rv a1, iv p1, iv (1 : Int32)] [(.ref a1), (.int (1 : Int32))]) s1 EF := fun t k => pre14 t (by
     refine XS.iinc X10.here hx rfl (B d23_21) rfl (l' := #[rv a1, iv p1, iv (1 : Int32)]) rfl ?_
     refine XS.goto X10.here hx rfl (pc0 := 24) (pc' := 2) rfl (B d23_24) (by decide) (by decide) ?_
     refine XS.iloadN X10.here hx rfl (B d23_2) rfl ?_
     exact XS.aloadN X10.here hx rfl (B d23_3) rfl rfl k)
    obtain ⟨cq16, kq16, q16a, q16b, q16c⟩ := isOf hZ e10 SF.exa
    obtain ⟨_, _, ⟨T16, L16, k16, n16⟩, -, X16, ⟨Lc16, hQ16, l16, y16, z16⟩, st16⟩ := X10.virtualBack hx (y := mN1) (z := mN1) hown (mvT hZ (hw _ (mW 32 rfl))) (mvT hZ (hw _ (mW 33 rfl))) (notFace_of_selects (args := #[]) (mvT hZ (hw _ (mW 35 rfl)))) (mvT hZ (hw _ (mW 35 rfl))) (mvT hZ (hw _ (mW 34 rfl))) (by decide) (backOf (W := 1) (rmJL l Z a0 hw [] a1 cz fv [c0, c1, c2, c3] (4 : Int32) h0 n0 Z0 O0 J0 SF (by rfl)) hZ (hw _ (mW 36 rfl)) (hw _ (mW 8 rfl)) (by decide) (by decide)) q16a q16c (g := (mkF m 4 #[rv a1, iv p1, iv (1 : Int32)] [(.ref a1), (.int (1 : Int32))])) rfl (hM rfl) (Steps.refl _) (argsL := []) (rest := [(.int (1 : Int32))]) (lenOf pd15 rfl) rfl (Nat.le_of_eq rfl) (B d23_4) (fun _ _ => ⟨rfl, e10, wl rfl, wl rfl⟩)
    dsimp only [Pt.U, Pt.locs, Pt.cells, Pt.slots] at X16 l16 y16 z16 st16 hQ16
    subst l16 y16 z16
    obtain ⟨rfl, N16q, hq16⟩ := hQ16
    have N16 := Fr.app N10 N16q
    have pre17 : Go p e bl T16 (mkF m 7 #[rv a1, iv p1, iv (1 : Int32)] [(.int (4 : Int32)), (.int (1 : Int32))]) s1 EF := fun t k => pre15 t (st16.trans k)
    have e16 : T16.heap = h0 := hq16
    have pre18 : Go p e bl T16 (mkF m 10 #[rv a1, iv p1, iv (1 : Int32)] []) s1 EF := fun t k => pre17 t (XS.icmpNo X16.here hx rfl (B d23_7) rfl (tlt (by decide : (1 : Int32) < (4 : Int32))).2.1 k)
    have pre19 : Go p e bl T16 (mkF m 12 #[rv a1, iv p1, iv (1 : Int32)] [(.int (1 : Int32)), (.ref a1)]) s1 EF := fun t k => pre18 t (by
     refine XS.aloadN X16.here hx rfl (B d23_10) rfl rfl ?_
     exact XS.iloadN X16.here hx rfl (B d23_11) rfl k)
    obtain ⟨cq20, kq20, q20a, q20b, q20c⟩ := isOf hZ e16 SF.exa
    obtain ⟨_, _, ⟨T20, L20, k20, n20⟩, -, X20, ⟨Lc20, hQ20, l20, y20, z20⟩, st20⟩ := X16.virtualBack hx (y := mN10) (z := mN10) hown (mvT hZ (hw _ (mW 56 rfl))) (mvT hZ (hw _ (mW 57 rfl))) (notFace_of_selects (args := #[]) (mvT hZ (hw _ (mW 59 rfl)))) (mvT hZ (hw _ (mW 59 rfl))) (mvT hZ (hw _ (mW 58 rfl))) (by decide) (backOf (W := 0) (rmJC l Z a0 hw [] a1 (1 : Int32) cz fv [c0, c1, c2, c3] c1 h0 n0 Z0 O0 J0 SF (by decide) rfl) hZ (hw _ (mW 60 rfl)) (hw _ (mW 8 rfl)) (by decide) (by decide)) q20a q20c (g := (mkF m 12 #[rv a1, iv p1, iv (1 : Int32)] [(.int (1 : Int32)), (.ref a1)])) rfl (hM rfl) (Steps.refl _) (argsL := [(.int (1 : Int32))]) (rest := []) (lenOf pd16 rfl) rfl (Nat.le_of_eq rfl) (B d23_12) (fun _ _ => ⟨rfl, e16, wl rfl, wl rfl⟩)
    dsimp only [Pt.U, Pt.locs, Pt.cells, Pt.slots] at X20 l20 y20 z20 st20 hQ20
    subst l20 y20 z20
    obtain ⟨rfl, N20q, hq20⟩ := hQ20
    have N20 := Fr.app N16 N20q
    have pre21 : Go p e bl T20 (mkF m 15 #[rv a1, iv p1, iv (1 : Int32)] [(.int c1)]) s1 EF := fun t k => pre19 t (st20.trans k)
    have e20 : T20.heap = h0 := hq20
    obtain ⟨_, _, ⟨T22, L22, k22, n22⟩, -, X22, ⟨Lc22, hQ22, l22, y22, z22⟩, st22⟩ := Jvm.LawKit.callS X20 hx (y := mN20) hown (mvT hZ (hw _ (mW 78 rfl))) (mvT hZ (hw _ (mW 79 rfl))) (mvT hZ (hw _ (mW 30 rfl))) (mvT hZ (hw _ (mW 80 rfl))) (by decide) (backOf (W := 0) (rmT l Z a0 hw [] c1 ta cl (expF c1) h0 n0 Z0 (S0.ext O0.2) (TB.ext O0.2) (own_eq cl HT c1)) hZ (hw _ (mW 80 rfl)) (hw _ (mW 30 rfl)) (by decide) (by decide)) (g := (mkF m 15 #[rv a1, iv p1, iv (1 : Int32)] [(.int c1)])) rfl (hM rfl) (argsL := [(.int c1)]) (rest := []) (lenOf pd17 rfl) rfl (Nat.le_of_eq rfl) (B d23_15) (fun _ _ => ⟨rfl, e20, wl rfl, wl rfl⟩)
    dsimp only [Pt.U, Pt.locs, Pt.cells, Pt.slots] at X22 l22 y22 z22 st22 hQ22
    subst l22 y22 z22
    obtain ⟨rfl, N22q, hq22⟩ := hQ22
    have N22 := Fr.app N20 N22q
    have pre23 : Go p e bl T22 (mkF m 18 #[rv a1, iv p1, iv (1 : Int32)] [(.int (expF c1))]) s1 EF := fun t k => pre21 t (st22 t k)
    have e22 : T22.heap = h0 := hq22
    by_cases hc18' : (expF c1) = (0 : Int32)
    · have pre24 : Go p e bl T22 (mkF m 27 #[rv a1, iv p1, iv (1 : Int32)] []) s1 EF := fun t k => pre23 t (XS.ifYes X22.here hx rfl (pc0 := 18) (pc' := 27) rfl (B d23_18) rfl ((if0 _ _).trans (teq hc18').1) (by decide) (by decide) k)
      have pre25 : Go p e bl T22 (mkF m 28 #[rv a1, iv p1, iv (1 : Int32)] [(.int (1 : Int32))]) s1 EF := fun t k => pre24 t (by
       exact XS.iloadN X22.here hx rfl (B d23_27) rfl k)
      exact fin1 X22 (v := some (.int (1 : Int32))) hrt hlk (wl rfl) (wl rfl) (by rw [e22]; exact ⟨by rw [← hR]; simp +decide [stepF, hv2_0, hc18, hc18'], N22, rfl⟩) (fun fs hr => hEF ▸ pre25 _ (retOut X22 hx Bd.returns rfl (Or.inl ⟨rfl, Or.inl rfl, _, rfl⟩) (B d23_28) hr))
    have pre26 : Go p e bl T22 (mkF m 21 #[rv a1, iv p1, iv (1 : Int32)] []) s1 EF := fun t k => pre23 t (XS.ifNo X22.here hx rfl (B d23_18) rfl ((if0 _ _).trans (feq hc18').1) k)
    have pre27 : Go p e bl T22 (mkF m 4 #[rv a1, iv p1, iv (2 : Int32)] [(.ref a1), (.int (2 : Int32))]) s1 EF := fun t k => pre26 t (by
     refine XS.iinc X22.here hx rfl (B d23_21) rfl (l' := #[rv a1, iv p1, iv (2 : Int32)]) rfl ?_
     refine XS.goto X22.here hx rfl (pc0 := 24) (pc' := 2) rfl (B d23_24) (by decide) (by decide) ?_
     refine XS.iloadN X22.here hx rfl (B d23_2) rfl ?_
     exact XS.aloadN X22.here hx rfl (B d23_3) rfl rfl k)
    obtain ⟨cq28, kq28, q28a, q28b, q28c⟩ := isOf hZ e22 SF.exa
    obtain ⟨_, _, ⟨T28, L28, k28, n28⟩, -, X28, ⟨Lc28, hQ28, l28, y28, z28⟩, st28⟩ := X22.virtualBack hx (y := mN1) (z := mN1) hown (mvT hZ (hw _ (mW 32 rfl))) (mvT hZ (hw _ (mW 33 rfl))) (notFace_of_selects (args := #[]) (mvT hZ (hw _ (mW 35 rfl)))) (mvT hZ (hw _ (mW 35 rfl))) (mvT hZ (hw _ (mW 34 rfl))) (by decide) (backOf (W := 1) (rmJL l Z a0 hw [] a1 cz fv [c0, c1, c2, c3] (4 : Int32) h0 n0 Z0 O0 J0 SF (by rfl)) hZ (hw _ (mW 36 rfl)) (hw _ (mW 8 rfl)) (by decide) (by decide)) q28a q28c (g := (mkF m 4 #[rv a1, iv p1, iv (2 : Int32)] [(.ref a1), (.int (2 : Int32))])) rfl (hM rfl) (Steps.refl _) (argsL := []) (rest := [(.int (2 : Int32))]) (lenOf pd15 rfl) rfl (Nat.le_of_eq rfl) (B d23_4) (fun _ _ => ⟨rfl, e22, wl rfl, wl rfl⟩)
    dsimp only [Pt.U, Pt.locs, Pt.cells, Pt.slots] at X28 l28 y28 z28 st28 hQ28
    subst l28 y28 z28
    obtain ⟨rfl, N28q, hq28⟩ := hQ28
    have N28 := Fr.app N22 N28q
    have pre29 : Go p e bl T28 (mkF m 7 #[rv a1, iv p1, iv (2 : Int32)] [(.int (4 : Int32)), (.int (2 : Int32))]) s1 EF := fun t k => pre27 t (st28.trans k)
    have e28 : T28.heap = h0 := hq28
    have pre30 : Go p e bl T28 (mkF m 10 #[rv a1, iv p1, iv (2 : Int32)] []) s1 EF := fun t k => pre29 t (XS.icmpNo X28.here hx rfl (B d23_7) rfl (tlt (by decide : (2 : Int32) < (4 : Int32))).2.1 k)
    have pre31 : Go p e bl T28 (mkF m 12 #[rv a1, iv p1, iv (2 : Int32)] [(.int (2 : Int32)), (.ref a1)]) s1 EF := fun t k => pre30 t (by
     refine XS.aloadN X28.here hx rfl (B d23_10) rfl rfl ?_
     exact XS.iloadN X28.here hx rfl (B d23_11) rfl k)
    obtain ⟨cq32, kq32, q32a, q32b, q32c⟩ := isOf hZ e28 SF.exa
    obtain ⟨_, _, ⟨T32, L32, k32, n32⟩, -, X32, ⟨Lc32, hQ32, l32, y32, z32⟩, st32⟩ := X28.virtualBack hx (y := mN10) (z := mN10) hown (mvT hZ (hw _ (mW 56 rfl))) (mvT hZ (hw _ (mW 57 rfl))) (notFace_of_selects (args := #[]) (mvT hZ (hw _ (mW 59 rfl)))) (mvT hZ (hw _ (mW 59 rfl))) (mvT hZ (hw _ (mW 58 rfl))) (by decide) (backOf (W := 0) (rmJC l Z a0 hw [] a1 (2 : Int32) cz fv [c0, c1, c2, c3] c2 h0 n0 Z0 O0 J0 SF (by decide) rfl) hZ (hw _ (mW 60 rfl)) (hw _ (mW 8 rfl)) (by decide) (by decide)) q32a q32c (g := (mkF m 12 #[rv a1, iv p1, iv (2 : Int32)] [(.int (2 : Int32)), (.ref a1)])) rfl (hM rfl) (Steps.refl _) (argsL := [(.int (2 : Int32))]) (rest := []) (lenOf pd16 rfl) rfl (Nat.le_of_eq rfl) (B d23_12) (fun _ _ => ⟨rfl, e28, wl rfl, wl rfl⟩)
    dsimp only [Pt.U, Pt.locs, Pt.cells, Pt.slots] at X32 l32 y32 z32 st32 hQ32
    subst l32 y32 z32
    obtain ⟨rfl, N32q, hq32⟩ := hQ32
    have N32 := Fr.app N28 N32q
    have pre33 : Go p e bl T32 (mkF m 15 #[rv a1, iv p1, iv (2 : Int32)] [(.int c2)]) s1 EF := fun t k => pre31 t (st32.trans k)
    have e32 : T32.heap = h0 := hq32
    obtain ⟨_, _, ⟨T34, L34, k34, n34⟩, -, X34, ⟨Lc34, hQ34, l34, y34, z34⟩, st34⟩ := Jvm.LawKit.callS X32 hx (y := mN20) hown (mvT hZ (hw _ (mW 78 rfl))) (mvT hZ (hw _ (mW 79 rfl))) (mvT hZ (hw _ (mW 30 rfl))) (mvT hZ (hw _ (mW 80 rfl))) (by decide) (backOf (W := 0) (rmT l Z a0 hw [] c2 ta cl (expF c2) h0 n0 Z0 (S0.ext O0.2) (TB.ext O0.2) (own_eq cl HT c2)) hZ (hw _ (mW 80 rfl)) (hw _ (mW 30 rfl)) (by decide) (by decide)) (g := (mkF m 15 #[rv a1, iv p1, iv (2 : Int32)] [(.int c2)])) rfl (hM rfl) (argsL := [(.int c2)]) (rest := []) (lenOf pd17 rfl) rfl (Nat.le_of_eq rfl) (B d23_15) (fun _ _ => ⟨rfl, e32, wl rfl, wl rfl⟩)
    dsimp only [Pt.U, Pt.locs, Pt.cells, Pt.slots] at X34 l34 y34 z34 st34 hQ34
    subst l34 y34 z34
    obtain ⟨rfl, N34q, hq34⟩ := hQ34
    have N34 := Fr.app N32 N34q
    have pre35 : Go p e bl T34 (mkF m 18 #[rv a1, iv p1, iv (2 : Int32)] [(.int (expF c2))]) s1 EF := fun t k => pre33 t (st34 t k)
    have e34 : T34.heap = h0 := hq34
    by_cases hc18'' : (expF c2) = (0 : Int32)
    · have pre36 : Go p e bl T34 (mkF m 27 #[rv a1, iv p1, iv (2 : Int32)] []) s1 EF := fun t k => pre35 t (XS.ifYes X34.here hx rfl (pc0 := 18) (pc' := 27) rfl (B d23_18) rfl ((if0 _ _).trans (teq hc18'').1) (by decide) (by decide) k)
      have pre37 : Go p e bl T34 (mkF m 28 #[rv a1, iv p1, iv (2 : Int32)] [(.int (2 : Int32))]) s1 EF := fun t k => pre36 t (by
       exact XS.iloadN X34.here hx rfl (B d23_27) rfl k)
      exact fin1 X34 (v := some (.int (2 : Int32))) hrt hlk (wl rfl) (wl rfl) (by rw [e34]; exact ⟨by rw [← hR]; simp +decide [stepF, hv2_0, hc18, hc18', hc18''], N34, rfl⟩) (fun fs hr => hEF ▸ pre37 _ (retOut X34 hx Bd.returns rfl (Or.inl ⟨rfl, Or.inl rfl, _, rfl⟩) (B d23_28) hr))
    have pre38 : Go p e bl T34 (mkF m 21 #[rv a1, iv p1, iv (2 : Int32)] []) s1 EF := fun t k => pre35 t (XS.ifNo X34.here hx rfl (B d23_18) rfl ((if0 _ _).trans (feq hc18'').1) k)
    have pre39 : Go p e bl T34 (mkF m 4 #[rv a1, iv p1, iv (3 : Int32)] [(.ref a1), (.int (3 : Int32))]) s1 EF := fun t k => pre38 t (by
     refine XS.iinc X34.here hx rfl (B d23_21) rfl (l' := #[rv a1, iv p1, iv (3 : Int32)]) rfl ?_
     refine XS.goto X34.here hx rfl (pc0 := 24) (pc' := 2) rfl (B d23_24) (by decide) (by decide) ?_
     refine XS.iloadN X34.here hx rfl (B d23_2) rfl ?_
     exact XS.aloadN X34.here hx rfl (B d23_3) rfl rfl k)
    obtain ⟨cq40, kq40, q40a, q40b, q40c⟩ := isOf hZ e34 SF.exa
    obtain ⟨_, _, ⟨T40, L40, k40, n40⟩, -, X40, ⟨Lc40, hQ40, l40, y40, z40⟩, st40⟩ := X34.virtualBack hx (y := mN1) (z := mN1) hown (mvT hZ (hw _ (mW 32 rfl))) (mvT hZ (hw _ (mW 33 rfl))) (notFace_of_selects (args := #[]) (mvT hZ (hw _ (mW 35 rfl)))) (mvT hZ (hw _ (mW 35 rfl))) (mvT hZ (hw _ (mW 34 rfl))) (by decide) (backOf (W := 1) (rmJL l Z a0 hw [] a1 cz fv [c0, c1, c2, c3] (4 : Int32) h0 n0 Z0 O0 J0 SF (by rfl)) hZ (hw _ (mW 36 rfl)) (hw _ (mW 8 rfl)) (by decide) (by decide)) q40a q40c (g := (mkF m 4 #[rv a1, iv p1, iv (3 : Int32)] [(.ref a1), (.int (3 : Int32))])) rfl (hM rfl) (Steps.refl _) (argsL := []) (rest := [(.int (3 : Int32))]) (lenOf pd15 rfl) rfl (Nat.le_of_eq rfl) (B d23_4) (fun _ _ => ⟨rfl, e34, wl rfl, wl rfl⟩)
    dsimp only [Pt.U, Pt.locs, Pt.cells, Pt.slots] at X40 l40 y40 z40 st40 hQ40
    subst l40 y40 z40
    obtain ⟨rfl, N40q, hq40⟩ := hQ40
    have N40 := Fr.app N34 N40q
    have pre41 : Go p e bl T40 (mkF m 7 #[rv a1, iv p1, iv (3 : Int32)] [(.int (4 : Int32)), (.int (3 : Int32))]) s1 EF := fun t k => pre39 t (st40.trans k)
    have e40 : T40.heap = h0 := hq40
    have pre42 : Go p e bl T40 (mkF m 10 #[rv a1, iv p1, iv (3 : Int32)] []) s1 EF := fun t k => pre41 t (XS.icmpNo X40.here hx rfl (B d23_7) rfl (tlt (by decide : (3 : Int32) < (4 : Int32))).2.1 k)
    have pre43 : Go p e bl T40 (mkF m 12 #[rv a1, iv p1, iv (3 : Int32)] [(.int (3 : Int32)), (.ref a1)]) s1 EF := fun t k => pre42 t (by
     refine XS.aloadN X40.here hx rfl (B d23_10) rfl rfl ?_
     exact XS.iloadN X40.here hx rfl (B d23_11) rfl k)
    obtain ⟨cq44, kq44, q44a, q44b, q44c⟩ := isOf hZ e40 SF.exa
    obtain ⟨_, _, ⟨T44, L44, k44, n44⟩, -, X44, ⟨Lc44, hQ44, l44, y44, z44⟩, st44⟩ := X40.virtualBack hx (y := mN10) (z := mN10) hown (mvT hZ (hw _ (mW 56 rfl))) (mvT hZ (hw _ (mW 57 rfl))) (notFace_of_selects (args := #[]) (mvT hZ (hw _ (mW 59 rfl)))) (mvT hZ (hw _ (mW 59 rfl))) (mvT hZ (hw _ (mW 58 rfl))) (by decide) (backOf (W := 0) (rmJC l Z a0 hw [] a1 (3 : Int32) cz fv [c0, c1, c2, c3] c3 h0 n0 Z0 O0 J0 SF (by decide) rfl) hZ (hw _ (mW 60 rfl)) (hw _ (mW 8 rfl)) (by decide) (by decide)) q44a q44c (g := (mkF m 12 #[rv a1, iv p1, iv (3 : Int32)] [(.int (3 : Int32)), (.ref a1)])) rfl (hM rfl) (Steps.refl _) (argsL := [(.int (3 : Int32))]) (rest := []) (lenOf pd16 rfl) rfl (Nat.le_of_eq rfl) (B d23_12) (fun _ _ => ⟨rfl, e40, wl rfl, wl rfl⟩)
    dsimp only [Pt.U, Pt.locs, Pt.cells, Pt.slots] at X44 l44 y44 z44 st44 hQ44
    subst l44 y44 z44
    obtain ⟨rfl, N44q, hq44⟩ := hQ44
    have N44 := Fr.app N40 N44q
    have pre45 : Go p e bl T44 (mkF m 15 #[rv a1, iv p1, iv (3 : Int32)] [(.int c3)]) s1 EF := fun t k => pre43 t (st44.trans k)
    have e44 : T44.heap = h0 := hq44
    obtain ⟨_, _, ⟨T46, L46, k46, n46⟩, -, X46, ⟨Lc46, hQ46, l46, y46, z46⟩, st46⟩ := Jvm.LawKit.callS X44 hx (y := mN20) hown (mvT hZ (hw _ (mW 78 rfl))) (mvT hZ (hw _ (mW 79 rfl))) (mvT hZ (hw _ (mW 30 rfl))) (mvT hZ (hw _ (mW 80 rfl))) (by decide) (backOf (W := 0) (rmT l Z a0 hw [] c3 ta cl (expF c3) h0 n0 Z0 (S0.ext O0.2) (TB.ext O0.2) (own_eq cl HT c3)) hZ (hw _ (mW 80 rfl)) (hw _ (mW 30 rfl)) (by decide) (by decide)) (g := (mkF m 15 #[rv a1, iv p1, iv (3 : Int32)] [(.int c3)])) rfl (hM rfl) (argsL := [(.int c3)]) (rest := []) (lenOf pd17 rfl) rfl (Nat.le_of_eq rfl) (B d23_15) (fun _ _ => ⟨rfl, e44, wl rfl, wl rfl⟩)
    dsimp only [Pt.U, Pt.locs, Pt.cells, Pt.slots] at X46 l46 y46 z46 st46 hQ46
    subst l46 y46 z46
    obtain ⟨rfl, N46q, hq46⟩ := hQ46
    have N46 := Fr.app N44 N46q
    have pre47 : Go p e bl T46 (mkF m 18 #[rv a1, iv p1, iv (3 : Int32)] [(.int (expF c3))]) s1 EF := fun t k => pre45 t (st46 t k)
    have e46 : T46.heap = h0 := hq46
    by_cases hc18''' : (expF c3) = (0 : Int32)
    · have pre48 : Go p e bl T46 (mkF m 27 #[rv a1, iv p1, iv (3 : Int32)] []) s1 EF := fun t k => pre47 t (XS.ifYes X46.here hx rfl (pc0 := 18) (pc' := 27) rfl (B d23_18) rfl ((if0 _ _).trans (teq hc18''').1) (by decide) (by decide) k)
      have pre49 : Go p e bl T46 (mkF m 28 #[rv a1, iv p1, iv (3 : Int32)] [(.int (3 : Int32))]) s1 EF := fun t k => pre48 t (by
       exact XS.iloadN X46.here hx rfl (B d23_27) rfl k)
      exact fin1 X46 (v := some (.int (3 : Int32))) hrt hlk (wl rfl) (wl rfl) (by rw [e46]; exact ⟨by rw [← hR]; simp +decide [stepF, hv2_0, hc18, hc18', hc18'', hc18'''], N46, rfl⟩) (fun fs hr => hEF ▸ pre49 _ (retOut X46 hx Bd.returns rfl (Or.inl ⟨rfl, Or.inl rfl, _, rfl⟩) (B d23_28) hr))
    have pre50 : Go p e bl T46 (mkF m 21 #[rv a1, iv p1, iv (3 : Int32)] []) s1 EF := fun t k => pre47 t (XS.ifNo X46.here hx rfl (B d23_18) rfl ((if0 _ _).trans (feq hc18''').1) k)
    have pre51 : Go p e bl T46 (mkF m 4 #[rv a1, iv p1, iv (4 : Int32)] [(.ref a1), (.int (4 : Int32))]) s1 EF := fun t k => pre50 t (by
     refine XS.iinc X46.here hx rfl (B d23_21) rfl (l' := #[rv a1, iv p1, iv (4 : Int32)]) rfl ?_
     refine XS.goto X46.here hx rfl (pc0 := 24) (pc' := 2) rfl (B d23_24) (by decide) (by decide) ?_
     refine XS.iloadN X46.here hx rfl (B d23_2) rfl ?_
     exact XS.aloadN X46.here hx rfl (B d23_3) rfl rfl k)
    obtain ⟨cq52, kq52, q52a, q52b, q52c⟩ := isOf hZ e46 SF.exa
    obtain ⟨_, _, ⟨T52, L52, k52, n52⟩, -, X52, ⟨Lc52, hQ52, l52, y52, z52⟩, st52⟩ := X46.virtualBack hx (y := mN1) (z := mN1) hown (mvT hZ (hw _ (mW 32 rfl))) (mvT hZ (hw _ (mW 33 rfl))) (notFace_of_selects (args := #[]) (mvT hZ (hw _ (mW 35 rfl)))) (mvT hZ (hw _ (mW 35 rfl))) (mvT hZ (hw _ (mW 34 rfl))) (by decide) (backOf (W := 1) (rmJL l Z a0 hw [] a1 cz fv [c0, c1, c2, c3] (4 : Int32) h0 n0 Z0 O0 J0 SF (by rfl)) hZ (hw _ (mW 36 rfl)) (hw _ (mW 8 rfl)) (by decide) (by decide)) q52a q52c (g := (mkF m 4 #[rv a1, iv p1, iv (4 : Int32)] [(.ref a1), (.int (4 : Int32))])) rfl (hM rfl) (Steps.refl _) (argsL := []) (rest := [(.int (4 : Int32))]) (lenOf pd15 rfl) rfl (Nat.le_of_eq rfl) (B d23_4) (fun _ _ => ⟨rfl, e46, wl rfl, wl rfl⟩)
    dsimp only [Pt.U, Pt.locs, Pt.cells, Pt.slots] at X52 l52 y52 z52 st52 hQ52
    subst l52 y52 z52
    obtain ⟨rfl, N52q, hq52⟩ := hQ52
    have N52 := Fr.app N46 N52q
    have pre53 : Go p e bl T52 (mkF m 7 #[rv a1, iv p1, iv (4 : Int32)] [(.int (4 : Int32)), (.int (4 : Int32))]) s1 EF := fun t k => pre51 t (st52.trans k)
    have e52 : T52.heap = h0 := hq52
    have pre54 : Go p e bl T52 (mkF m 27 #[rv a1, iv p1, iv (4 : Int32)] []) s1 EF := fun t k => pre53 t (XS.icmpYes X52.here hx rfl (pc0 := 7) (pc' := 27) rfl (B d23_7) rfl (flt (by decide : ¬ ((4 : Int32) < (4 : Int32)))).2.1 (by decide) (by decide) k)
    have pre55 : Go p e bl T52 (mkF m 28 #[rv a1, iv p1, iv (4 : Int32)] [(.int (4 : Int32))]) s1 EF := fun t k => pre54 t (by
     exact XS.iloadN X52.here hx rfl (B d23_27) rfl k)
    exact fin1 X52 (v := some (.int (4 : Int32))) hrt hlk (wl rfl) (wl rfl) (by rw [e52]; exact ⟨by rw [← hR]; simp +decide [stepF, hv2_0, hc18, hc18', hc18'', hc18'''], N52, rfl⟩) (fun fs hr => hEF ▸ pre55 _ (retOut X52 hx Bd.returns rfl (Or.inl ⟨rfl, Or.inl rfl, _, rfl⟩) (B d23_28) hr))
  · have pre56 : Go p e bl s1 (mkF m 4 #[rv a1, iv p1, iv (1 : Int32)] [(.ref a1), (.int (1 : Int32))]) s1 EF := fun t k => pre1 t (by
     refine XS.istoreN X0.here hx rfl (B d23_1) rfl (l' := #[rv a1, iv p1, iv (1 : Int32)]) (by rw [hv2_1]; rfl) ?_
     refine XS.iloadN X0.here hx rfl (B d23_2) rfl ?_
     exact XS.aloadN X0.here hx rfl (B d23_3) rfl rfl k)
    obtain ⟨cq57, kq57, q57a, q57b, q57c⟩ := isOf hZ e0 SF.exa
    obtain ⟨_, _, ⟨T57, L57, k57, n57⟩, -, X57, ⟨Lc57, hQ57, l57, y57, z57⟩, st57⟩ := X0.virtualBack hx (y := mN1) (z := mN1) hown (mvT hZ (hw _ (mW 32 rfl))) (mvT hZ (hw _ (mW 33 rfl))) (notFace_of_selects (args := #[]) (mvT hZ (hw _ (mW 35 rfl)))) (mvT hZ (hw _ (mW 35 rfl))) (mvT hZ (hw _ (mW 34 rfl))) (by decide) (backOf (W := 1) (rmJL l Z a0 hw [] a1 cz fv [c0, c1, c2, c3] (4 : Int32) h0 n0 Z0 O0 J0 SF (by rfl)) hZ (hw _ (mW 36 rfl)) (hw _ (mW 8 rfl)) (by decide) (by decide)) q57a q57c (g := (mkF m 4 #[rv a1, iv p1, iv (1 : Int32)] [(.ref a1), (.int (1 : Int32))])) rfl (hM rfl) (Steps.refl _) (argsL := []) (rest := [(.int (1 : Int32))]) (lenOf pd15 rfl) rfl (Nat.le_of_eq rfl) (B d23_4) (fun _ _ => ⟨rfl, e0, wl rfl, wl rfl⟩)
    dsimp only [Pt.U, Pt.locs, Pt.cells, Pt.slots] at X57 l57 y57 z57 st57 hQ57
    subst l57 y57 z57
    obtain ⟨rfl, N57q, hq57⟩ := hQ57
    have N57 := Fr.app N0 N57q
    have pre58 : Go p e bl T57 (mkF m 7 #[rv a1, iv p1, iv (1 : Int32)] [(.int (4 : Int32)), (.int (1 : Int32))]) s1 EF := fun t k => pre56 t (st57.trans k)
    have e57 : T57.heap = h0 := hq57
    have pre59 : Go p e bl T57 (mkF m 10 #[rv a1, iv p1, iv (1 : Int32)] []) s1 EF := fun t k => pre58 t (XS.icmpNo X57.here hx rfl (B d23_7) rfl (tlt (by decide : (1 : Int32) < (4 : Int32))).2.1 k)
    have pre60 : Go p e bl T57 (mkF m 12 #[rv a1, iv p1, iv (1 : Int32)] [(.int (1 : Int32)), (.ref a1)]) s1 EF := fun t k => pre59 t (by
     refine XS.aloadN X57.here hx rfl (B d23_10) rfl rfl ?_
     exact XS.iloadN X57.here hx rfl (B d23_11) rfl k)
    obtain ⟨cq61, kq61, q61a, q61b, q61c⟩ := isOf hZ e57 SF.exa
    obtain ⟨_, _, ⟨T61, L61, k61, n61⟩, -, X61, ⟨Lc61, hQ61, l61, y61, z61⟩, st61⟩ := X57.virtualBack hx (y := mN10) (z := mN10) hown (mvT hZ (hw _ (mW 56 rfl))) (mvT hZ (hw _ (mW 57 rfl))) (notFace_of_selects (args := #[]) (mvT hZ (hw _ (mW 59 rfl)))) (mvT hZ (hw _ (mW 59 rfl))) (mvT hZ (hw _ (mW 58 rfl))) (by decide) (backOf (W := 0) (rmJC l Z a0 hw [] a1 (1 : Int32) cz fv [c0, c1, c2, c3] c1 h0 n0 Z0 O0 J0 SF (by decide) rfl) hZ (hw _ (mW 60 rfl)) (hw _ (mW 8 rfl)) (by decide) (by decide)) q61a q61c (g := (mkF m 12 #[rv a1, iv p1, iv (1 : Int32)] [(.int (1 : Int32)), (.ref a1)])) rfl (hM rfl) (Steps.refl _) (argsL := [(.int (1 : Int32))]) (rest := []) (lenOf pd16 rfl) rfl (Nat.le_of_eq rfl) (B d23_12) (fun _ _ => ⟨rfl, e57, wl rfl, wl rfl⟩)
    dsimp only [Pt.U, Pt.locs, Pt.cells, Pt.slots] at X61 l61 y61 z61 st61 hQ61
    subst l61 y61 z61
    obtain ⟨rfl, N61q, hq61⟩ := hQ61
    have N61 := Fr.app N57 N61q
    have pre62 : Go p e bl T61 (mkF m 15 #[rv a1, iv p1, iv (1 : Int32)] [(.int c1)]) s1 EF := fun t k => pre60 t (st61.trans k)
    have e61 : T61.heap = h0 := hq61
    obtain ⟨_, _, ⟨T63, L63, k63, n63⟩, -, X63, ⟨Lc63, hQ63, l63, y63, z63⟩, st63⟩ := Jvm.LawKit.callS X61 hx (y := mN20) hown (mvT hZ (hw _ (mW 78 rfl))) (mvT hZ (hw _ (mW 79 rfl))) (mvT hZ (hw _ (mW 30 rfl))) (mvT hZ (hw _ (mW 80 rfl))) (by decide) (backOf (W := 0) (rmT l Z a0 hw [] c1 ta cl (expF c1) h0 n0 Z0 (S0.ext O0.2) (TB.ext O0.2) (own_eq cl HT c1)) hZ (hw _ (mW 80 rfl)) (hw _ (mW 30 rfl)) (by decide) (by decide)) (g := (mkF m 15 #[rv a1, iv p1, iv (1 : Int32)] [(.int c1)])) rfl (hM rfl) (argsL := [(.int c1)]) (rest := []) (lenOf pd17 rfl) rfl (Nat.le_of_eq rfl) (B d23_15) (fun _ _ => ⟨rfl, e61, wl rfl, wl rfl⟩)
    dsimp only [Pt.U, Pt.locs, Pt.cells, Pt.slots] at X63 l63 y63 z63 st63 hQ63
    subst l63 y63 z63
    obtain ⟨rfl, N63q, hq63⟩ := hQ63
    have N63 := Fr.app N61 N63q
    have pre64 : Go p e bl T63 (mkF m 18 #[rv a1, iv p1, iv (1 : Int32)] [(.int (expF c1))]) s1 EF := fun t k => pre62 t (st63 t k)
    have e63 : T63.heap = h0 := hq63
    by_cases hc18 : (expF c1) = (0 : Int32)
    · have pre65 : Go p e bl T63 (mkF m 27 #[rv a1, iv p1, iv (1 : Int32)] []) s1 EF := fun t k => pre64 t (XS.ifYes X63.here hx rfl (pc0 := 18) (pc' := 27) rfl (B d23_18) rfl ((if0 _ _).trans (teq hc18).1) (by decide) (by decide) k)
      have pre66 : Go p e bl T63 (mkF m 28 #[rv a1, iv p1, iv (1 : Int32)] [(.int (1 : Int32))]) s1 EF := fun t k => pre65 t (by
       exact XS.iloadN X63.here hx rfl (B d23_27) rfl k)
      exact fin1 X63 (v := some (.int (1 : Int32))) hrt hlk (wl rfl) (wl rfl) (by rw [e63]; exact ⟨by rw [← hR]; simp +decide [stepF, hv2_1, hc18], N63, rfl⟩) (fun fs hr => hEF ▸ pre66 _ (retOut X63 hx Bd.returns rfl (Or.inl ⟨rfl, Or.inl rfl, _, rfl⟩) (B d23_28) hr))
    have pre67 : Go p e bl T63 (mkF m 21 #[rv a1, iv p1, iv (1 : Int32)] []) s1 EF := fun t k => pre64 t (XS.ifNo X63.here hx rfl (B d23_18) rfl ((if0 _ _).trans (feq hc18).1) k)
    have pre68 : Go p e bl T63 (mkF m 4 #[rv a1, iv p1, iv (2 : Int32)] [(.ref a1), (.int (2 : Int32))]) s1 EF := fun t k => pre67 t (by
     refine XS.iinc X63.here hx rfl (B d23_21) rfl (l' := #[rv a1, iv p1, iv (2 : Int32)]) rfl ?_
     refine XS.goto X63.here hx rfl (pc0 := 24) (pc' := 2) rfl (B d23_24) (by decide) (by decide) ?_
     refine XS.iloadN X63.here hx rfl (B d23_2) rfl ?_
     exact XS.aloadN X63.here hx rfl (B d23_3) rfl rfl k)
    obtain ⟨cq69, kq69, q69a, q69b, q69c⟩ := isOf hZ e63 SF.exa
    obtain ⟨_, _, ⟨T69, L69, k69, n69⟩, -, X69, ⟨Lc69, hQ69, l69, y69, z69⟩, st69⟩ := X63.virtualBack hx (y := mN1) (z := mN1) hown (mvT hZ (hw _ (mW 32 rfl))) (mvT hZ (hw _ (mW 33 rfl))) (notFace_of_selects (args := #[]) (mvT hZ (hw _ (mW 35 rfl)))) (mvT hZ (hw _ (mW 35 rfl))) (mvT hZ (hw _ (mW 34 rfl))) (by decide) (backOf (W := 1) (rmJL l Z a0 hw [] a1 cz fv [c0, c1, c2, c3] (4 : Int32) h0 n0 Z0 O0 J0 SF (by rfl)) hZ (hw _ (mW 36 rfl)) (hw _ (mW 8 rfl)) (by decide) (by decide)) q69a q69c (g := (mkF m 4 #[rv a1, iv p1, iv (2 : Int32)] [(.ref a1), (.int (2 : Int32))])) rfl (hM rfl) (Steps.refl _) (argsL := []) (rest := [(.int (2 : Int32))]) (lenOf pd15 rfl) rfl (Nat.le_of_eq rfl) (B d23_4) (fun _ _ => ⟨rfl, e63, wl rfl, wl rfl⟩)
    dsimp only [Pt.U, Pt.locs, Pt.cells, Pt.slots] at X69 l69 y69 z69 st69 hQ69
    subst l69 y69 z69
    obtain ⟨rfl, N69q, hq69⟩ := hQ69
    have N69 := Fr.app N63 N69q
    have pre70 : Go p e bl T69 (mkF m 7 #[rv a1, iv p1, iv (2 : Int32)] [(.int (4 : Int32)), (.int (2 : Int32))]) s1 EF := fun t k => pre68 t (st69.trans k)
    have e69 : T69.heap = h0 := hq69
    have pre71 : Go p e bl T69 (mkF m 10 #[rv a1, iv p1, iv (2 : Int32)] []) s1 EF := fun t k => pre70 t (XS.icmpNo X69.here hx rfl (B d23_7) rfl (tlt (by decide : (2 : Int32) < (4 : Int32))).2.1 k)
    have pre72 : Go p e bl T69 (mkF m 12 #[rv a1, iv p1, iv (2 : Int32)] [(.int (2 : Int32)), (.ref a1)]) s1 EF := fun t k => pre71 t (by
     refine XS.aloadN X69.here hx rfl (B d23_10) rfl rfl ?_
     exact XS.iloadN X69.here hx rfl (B d23_11) rfl k)
    obtain ⟨cq73, kq73, q73a, q73b, q73c⟩ := isOf hZ e69 SF.exa
    obtain ⟨_, _, ⟨T73, L73, k73, n73⟩, -, X73, ⟨Lc73, hQ73, l73, y73, z73⟩, st73⟩ := X69.virtualBack hx (y := mN10) (z := mN10) hown (mvT hZ (hw _ (mW 56 rfl))) (mvT hZ (hw _ (mW 57 rfl))) (notFace_of_selects (args := #[]) (mvT hZ (hw _ (mW 59 rfl)))) (mvT hZ (hw _ (mW 59 rfl))) (mvT hZ (hw _ (mW 58 rfl))) (by decide) (backOf (W := 0) (rmJC l Z a0 hw [] a1 (2 : Int32) cz fv [c0, c1, c2, c3] c2 h0 n0 Z0 O0 J0 SF (by decide) rfl) hZ (hw _ (mW 60 rfl)) (hw _ (mW 8 rfl)) (by decide) (by decide)) q73a q73c (g := (mkF m 12 #[rv a1, iv p1, iv (2 : Int32)] [(.int (2 : Int32)), (.ref a1)])) rfl (hM rfl) (Steps.refl _) (argsL := [(.int (2 : Int32))]) (rest := []) (lenOf pd16 rfl) rfl (Nat.le_of_eq rfl) (B d23_12) (fun _ _ => ⟨rfl, e69, wl rfl, wl rfl⟩)
    dsimp only [Pt.U, Pt.locs, Pt.cells, Pt.slots] at X73 l73 y73 z73 st73 hQ73
    subst l73 y73 z73
    obtain ⟨rfl, N73q, hq73⟩ := hQ73
    have N73 := Fr.app N69 N73q
    have pre74 : Go p e bl T73 (mkF m 15 #[rv a1, iv p1, iv (2 : Int32)] [(.int c2)]) s1 EF := fun t k => pre72 t (st73.trans k)
    have e73 : T73.heap = h0 := hq73
    obtain ⟨_, _, ⟨T75, L75, k75, n75⟩, -, X75, ⟨Lc75, hQ75, l75, y75, z75⟩, st75⟩ := Jvm.LawKit.callS X73 hx (y := mN20) hown (mvT hZ (hw _ (mW 78 rfl))) (mvT hZ (hw _ (mW 79 rfl))) (mvT hZ (hw _ (mW 30 rfl))) (mvT hZ (hw _ (mW 80 rfl))) (by decide) (backOf (W := 0) (rmT l Z a0 hw [] c2 ta cl (expF c2) h0 n0 Z0 (S0.ext O0.2) (TB.ext O0.2) (own_eq cl HT c2)) hZ (hw _ (mW 80 rfl)) (hw _ (mW 30 rfl)) (by decide) (by decide)) (g := (mkF m 15 #[rv a1, iv p1, iv (2 : Int32)] [(.int c2)])) rfl (hM rfl) (argsL := [(.int c2)]) (rest := []) (lenOf pd17 rfl) rfl (Nat.le_of_eq rfl) (B d23_15) (fun _ _ => ⟨rfl, e73, wl rfl, wl rfl⟩)
    dsimp only [Pt.U, Pt.locs, Pt.cells, Pt.slots] at X75 l75 y75 z75 st75 hQ75
    subst l75 y75 z75
    obtain ⟨rfl, N75q, hq75⟩ := hQ75
    have N75 := Fr.app N73 N75q
    have pre76 : Go p e bl T75 (mkF m 18 #[rv a1, iv p1, iv (2 : Int32)] [(.int (expF c2))]) s1 EF := fun t k => pre74 t (st75 t k)
    have e75 : T75.heap = h0 := hq75
    by_cases hc18' : (expF c2) = (0 : Int32)
    · have pre77 : Go p e bl T75 (mkF m 27 #[rv a1, iv p1, iv (2 : Int32)] []) s1 EF := fun t k => pre76 t (XS.ifYes X75.here hx rfl (pc0 := 18) (pc' := 27) rfl (B d23_18) rfl ((if0 _ _).trans (teq hc18').1) (by decide) (by decide) k)
      have pre78 : Go p e bl T75 (mkF m 28 #[rv a1, iv p1, iv (2 : Int32)] [(.int (2 : Int32))]) s1 EF := fun t k => pre77 t (by
       exact XS.iloadN X75.here hx rfl (B d23_27) rfl k)
      exact fin1 X75 (v := some (.int (2 : Int32))) hrt hlk (wl rfl) (wl rfl) (by rw [e75]; exact ⟨by rw [← hR]; simp +decide [stepF, hv2_1, hc18, hc18'], N75, rfl⟩) (fun fs hr => hEF ▸ pre78 _ (retOut X75 hx Bd.returns rfl (Or.inl ⟨rfl, Or.inl rfl, _, rfl⟩) (B d23_28) hr))
    have pre79 : Go p e bl T75 (mkF m 21 #[rv a1, iv p1, iv (2 : Int32)] []) s1 EF := fun t k => pre76 t (XS.ifNo X75.here hx rfl (B d23_18) rfl ((if0 _ _).trans (feq hc18').1) k)
    have pre80 : Go p e bl T75 (mkF m 4 #[rv a1, iv p1, iv (3 : Int32)] [(.ref a1), (.int (3 : Int32))]) s1 EF := fun t k => pre79 t (by
     refine XS.iinc X75.here hx rfl (B d23_21) rfl (l' := #[rv a1, iv p1, iv (3 : Int32)]) rfl ?_
     refine XS.goto X75.here hx rfl (pc0 := 24) (pc' := 2) rfl (B d23_24) (by decide) (by decide) ?_
     refine XS.iloadN X75.here hx rfl (B d23_2) rfl ?_
     exact XS.aloadN X75.here hx rfl (B d23_3) rfl rfl k)
    obtain ⟨cq81, kq81, q81a, q81b, q81c⟩ := isOf hZ e75 SF.exa
    obtain ⟨_, _, ⟨T81, L81, k81, n81⟩, -, X81, ⟨Lc81, hQ81, l81, y81, z81⟩, st81⟩ := X75.virtualBack hx (y := mN1) (z := mN1) hown (mvT hZ (hw _ (mW 32 rfl))) (mvT hZ (hw _ (mW 33 rfl))) (notFace_of_selects (args := #[]) (mvT hZ (hw _ (mW 35 rfl)))) (mvT hZ (hw _ (mW 35 rfl))) (mvT hZ (hw _ (mW 34 rfl))) (by decide) (backOf (W := 1) (rmJL l Z a0 hw [] a1 cz fv [c0, c1, c2, c3] (4 : Int32) h0 n0 Z0 O0 J0 SF (by rfl)) hZ (hw _ (mW 36 rfl)) (hw _ (mW 8 rfl)) (by decide) (by decide)) q81a q81c (g := (mkF m 4 #[rv a1, iv p1, iv (3 : Int32)] [(.ref a1), (.int (3 : Int32))])) rfl (hM rfl) (Steps.refl _) (argsL := []) (rest := [(.int (3 : Int32))]) (lenOf pd15 rfl) rfl (Nat.le_of_eq rfl) (B d23_4) (fun _ _ => ⟨rfl, e75, wl rfl, wl rfl⟩)
    dsimp only [Pt.U, Pt.locs, Pt.cells, Pt.slots] at X81 l81 y81 z81 st81 hQ81
    subst l81 y81 z81
    obtain ⟨rfl, N81q, hq81⟩ := hQ81
    have N81 := Fr.app N75 N81q
    have pre82 : Go p e bl T81 (mkF m 7 #[rv a1, iv p1, iv (3 : Int32)] [(.int (4 : Int32)), (.int (3 : Int32))]) s1 EF := fun t k => pre80 t (st81.trans k)
    have e81 : T81.heap = h0 := hq81
    have pre83 : Go p e bl T81 (mkF m 10 #[rv a1, iv p1, iv (3 : Int32)] []) s1 EF := fun t k => pre82 t (XS.icmpNo X81.here hx rfl (B d23_7) rfl (tlt (by decide : (3 : Int32) < (4 : Int32))).2.1 k)
    have pre84 : Go p e bl T81 (mkF m 12 #[rv a1, iv p1, iv (3 : Int32)] [(.int (3 : Int32)), (.ref a1)]) s1 EF := fun t k => pre83 t (by
     refine XS.aloadN X81.here hx rfl (B d23_10) rfl rfl ?_
     exact XS.iloadN X81.here hx rfl (B d23_11) rfl k)
    obtain ⟨cq85, kq85, q85a, q85b, q85c⟩ := isOf hZ e81 SF.exa
    obtain ⟨_, _, ⟨T85, L85, k85, n85⟩, -, X85, ⟨Lc85, hQ85, l85, y85, z85⟩, st85⟩ := X81.virtualBack hx (y := mN10) (z := mN10) hown (mvT hZ (hw _ (mW 56 rfl))) (mvT hZ (hw _ (mW 57 rfl))) (notFace_of_selects (args := #[]) (mvT hZ (hw _ (mW 59 rfl)))) (mvT hZ (hw _ (mW 59 rfl))) (mvT hZ (hw _ (mW 58 rfl))) (by decide) (backOf (W := 0) (rmJC l Z a0 hw [] a1 (3 : Int32) cz fv [c0, c1, c2, c3] c3 h0 n0 Z0 O0 J0 SF (by decide) rfl) hZ (hw _ (mW 60 rfl)) (hw _ (mW 8 rfl)) (by decide) (by decide)) q85a q85c (g := (mkF m 12 #[rv a1, iv p1, iv (3 : Int32)] [(.int (3 : Int32)), (.ref a1)])) rfl (hM rfl) (Steps.refl _) (argsL := [(.int (3 : Int32))]) (rest := []) (lenOf pd16 rfl) rfl (Nat.le_of_eq rfl) (B d23_12) (fun _ _ => ⟨rfl, e81, wl rfl, wl rfl⟩)
    dsimp only [Pt.U, Pt.locs, Pt.cells, Pt.slots] at X85 l85 y85 z85 st85 hQ85
    subst l85 y85 z85
    obtain ⟨rfl, N85q, hq85⟩ := hQ85
    have N85 := Fr.app N81 N85q
    have pre86 : Go p e bl T85 (mkF m 15 #[rv a1, iv p1, iv (3 : Int32)] [(.int c3)]) s1 EF := fun t k => pre84 t (st85.trans k)
    have e85 : T85.heap = h0 := hq85
    obtain ⟨_, _, ⟨T87, L87, k87, n87⟩, -, X87, ⟨Lc87, hQ87, l87, y87, z87⟩, st87⟩ := Jvm.LawKit.callS X85 hx (y := mN20) hown (mvT hZ (hw _ (mW 78 rfl))) (mvT hZ (hw _ (mW 79 rfl))) (mvT hZ (hw _ (mW 30 rfl))) (mvT hZ (hw _ (mW 80 rfl))) (by decide) (backOf (W := 0) (rmT l Z a0 hw [] c3 ta cl (expF c3) h0 n0 Z0 (S0.ext O0.2) (TB.ext O0.2) (own_eq cl HT c3)) hZ (hw _ (mW 80 rfl)) (hw _ (mW 30 rfl)) (by decide) (by decide)) (g := (mkF m 15 #[rv a1, iv p1, iv (3 : Int32)] [(.int c3)])) rfl (hM rfl) (argsL := [(.int c3)]) (rest := []) (lenOf pd17 rfl) rfl (Nat.le_of_eq rfl) (B d23_15) (fun _ _ => ⟨rfl, e85, wl rfl, wl rfl⟩)
    dsimp only [Pt.U, Pt.locs, Pt.cells, Pt.slots] at X87 l87 y87 z87 st87 hQ87
    subst l87 y87 z87
    obtain ⟨rfl, N87q, hq87⟩ := hQ87
    have N87 := Fr.app N85 N87q
    have pre88 : Go p e bl T87 (mkF m 18 #[rv a1, iv p1, iv (3 : Int32)] [(.int (expF c3))]) s1 EF := fun t k => pre86 t (st87 t k)
    have e87 : T87.heap = h0 := hq87
    by_cases hc18'' : (expF c3) = (0 : Int32)
    · have pre89 : Go p e bl T87 (mkF m 27 #[rv a1, iv p1, iv (3 : Int32)] []) s1 EF := fun t k => pre88 t (XS.ifYes X87.here hx rfl (pc0 := 18) (pc' := 27) rfl (B d23_18) rfl ((if0 _ _).trans (teq hc18'').1) (by decide) (by decide) k)
      have pre90 : Go p e bl T87 (mkF m 28 #[rv a1, iv p1, iv (3 : Int32)] [(.int (3 : Int32))]) s1 EF := fun t k => pre89 t (by
       exact XS.iloadN X87.here hx rfl (B d23_27) rfl k)
      exact fin1 X87 (v := some (.int (3 : Int32))) hrt hlk (wl rfl) (wl rfl) (by rw [e87]; exact ⟨by rw [← hR]; simp +decide [stepF, hv2_1, hc18, hc18', hc18''], N87, rfl⟩) (fun fs hr => hEF ▸ pre90 _ (retOut X87 hx Bd.returns rfl (Or.inl ⟨rfl, Or.inl rfl, _, rfl⟩) (B d23_28) hr))
    have pre91 : Go p e bl T87 (mkF m 21 #[rv a1, iv p1, iv (3 : Int32)] []) s1 EF := fun t k => pre88 t (XS.ifNo X87.here hx rfl (B d23_18) rfl ((if0 _ _).trans (feq hc18'').1) k)
    have pre92 : Go p e bl T87 (mkF m 4 #[rv a1, iv p1, iv (4 : Int32)] [(.ref a1), (.int (4 : Int32))]) s1 EF := fun t k => pre91 t (by
     refine XS.iinc X87.here hx rfl (B d23_21) rfl (l' := #[rv a1, iv p1, iv (4 : Int32)]) rfl ?_
     refine XS.goto X87.here hx rfl (pc0 := 24) (pc' := 2) rfl (B d23_24) (by decide) (by decide) ?_
     refine XS.iloadN X87.here hx rfl (B d23_2) rfl ?_
     exact XS.aloadN X87.here hx rfl (B d23_3) rfl rfl k)
    obtain ⟨cq93, kq93, q93a, q93b, q93c⟩ := isOf hZ e87 SF.exa
    obtain ⟨_, _, ⟨T93, L93, k93, n93⟩, -, X93, ⟨Lc93, hQ93, l93, y93, z93⟩, st93⟩ := X87.virtualBack hx (y := mN1) (z := mN1) hown (mvT hZ (hw _ (mW 32 rfl))) (mvT hZ (hw _ (mW 33 rfl))) (notFace_of_selects (args := #[]) (mvT hZ (hw _ (mW 35 rfl)))) (mvT hZ (hw _ (mW 35 rfl))) (mvT hZ (hw _ (mW 34 rfl))) (by decide) (backOf (W := 1) (rmJL l Z a0 hw [] a1 cz fv [c0, c1, c2, c3] (4 : Int32) h0 n0 Z0 O0 J0 SF (by rfl)) hZ (hw _ (mW 36 rfl)) (hw _ (mW 8 rfl)) (by decide) (by decide)) q93a q93c (g := (mkF m 4 #[rv a1, iv p1, iv (4 : Int32)] [(.ref a1), (.int (4 : Int32))])) rfl (hM rfl) (Steps.refl _) (argsL := []) (rest := [(.int (4 : Int32))]) (lenOf pd15 rfl) rfl (Nat.le_of_eq rfl) (B d23_4) (fun _ _ => ⟨rfl, e87, wl rfl, wl rfl⟩)
    dsimp only [Pt.U, Pt.locs, Pt.cells, Pt.slots] at X93 l93 y93 z93 st93 hQ93
    subst l93 y93 z93
    obtain ⟨rfl, N93q, hq93⟩ := hQ93
    have N93 := Fr.app N87 N93q
    have pre94 : Go p e bl T93 (mkF m 7 #[rv a1, iv p1, iv (4 : Int32)] [(.int (4 : Int32)), (.int (4 : Int32))]) s1 EF := fun t k => pre92 t (st93.trans k)
    have e93 : T93.heap = h0 := hq93
    have pre95 : Go p e bl T93 (mkF m 27 #[rv a1, iv p1, iv (4 : Int32)] []) s1 EF := fun t k => pre94 t (XS.icmpYes X93.here hx rfl (pc0 := 7) (pc' := 27) rfl (B d23_7) rfl (flt (by decide : ¬ ((4 : Int32) < (4 : Int32)))).2.1 (by decide) (by decide) k)
    have pre96 : Go p e bl T93 (mkF m 28 #[rv a1, iv p1, iv (4 : Int32)] [(.int (4 : Int32))]) s1 EF := fun t k => pre95 t (by
     exact XS.iloadN X93.here hx rfl (B d23_27) rfl k)
    exact fin1 X93 (v := some (.int (4 : Int32))) hrt hlk (wl rfl) (wl rfl) (by rw [e93]; exact ⟨by rw [← hR]; simp +decide [stepF, hv2_1, hc18, hc18', hc18''], N93, rfl⟩) (fun fs hr => hEF ▸ pre96 _ (retOut X93 hx Bd.returns rfl (Or.inl ⟨rfl, Or.inl rfl, _, rfl⟩) (B d23_28) hr))
  · have pre97 : Go p e bl s1 (mkF m 4 #[rv a1, iv p1, iv (2 : Int32)] [(.ref a1), (.int (2 : Int32))]) s1 EF := fun t k => pre1 t (by
     refine XS.istoreN X0.here hx rfl (B d23_1) rfl (l' := #[rv a1, iv p1, iv (2 : Int32)]) (by rw [hv2_2]; rfl) ?_
     refine XS.iloadN X0.here hx rfl (B d23_2) rfl ?_
     exact XS.aloadN X0.here hx rfl (B d23_3) rfl rfl k)
    obtain ⟨cq98, kq98, q98a, q98b, q98c⟩ := isOf hZ e0 SF.exa
    obtain ⟨_, _, ⟨T98, L98, k98, n98⟩, -, X98, ⟨Lc98, hQ98, l98, y98, z98⟩, st98⟩ := X0.virtualBack hx (y := mN1) (z := mN1) hown (mvT hZ (hw _ (mW 32 rfl))) (mvT hZ (hw _ (mW 33 rfl))) (notFace_of_selects (args := #[]) (mvT hZ (hw _ (mW 35 rfl)))) (mvT hZ (hw _ (mW 35 rfl))) (mvT hZ (hw _ (mW 34 rfl))) (by decide) (backOf (W := 1) (rmJL l Z a0 hw [] a1 cz fv [c0, c1, c2, c3] (4 : Int32) h0 n0 Z0 O0 J0 SF (by rfl)) hZ (hw _ (mW 36 rfl)) (hw _ (mW 8 rfl)) (by decide) (by decide)) q98a q98c (g := (mkF m 4 #[rv a1, iv p1, iv (2 : Int32)] [(.ref a1), (.int (2 : Int32))])) rfl (hM rfl) (Steps.refl _) (argsL := []) (rest := [(.int (2 : Int32))]) (lenOf pd15 rfl) rfl (Nat.le_of_eq rfl) (B d23_4) (fun _ _ => ⟨rfl, e0, wl rfl, wl rfl⟩)
    dsimp only [Pt.U, Pt.locs, Pt.cells, Pt.slots] at X98 l98 y98 z98 st98 hQ98
    subst l98 y98 z98
    obtain ⟨rfl, N98q, hq98⟩ := hQ98
    have N98 := Fr.app N0 N98q
    have pre99 : Go p e bl T98 (mkF m 7 #[rv a1, iv p1, iv (2 : Int32)] [(.int (4 : Int32)), (.int (2 : Int32))]) s1 EF := fun t k => pre97 t (st98.trans k)
    have e98 : T98.heap = h0 := hq98
    have pre100 : Go p e bl T98 (mkF m 10 #[rv a1, iv p1, iv (2 : Int32)] []) s1 EF := fun t k => pre99 t (XS.icmpNo X98.here hx rfl (B d23_7) rfl (tlt (by decide : (2 : Int32) < (4 : Int32))).2.1 k)
    have pre101 : Go p e bl T98 (mkF m 12 #[rv a1, iv p1, iv (2 : Int32)] [(.int (2 : Int32)), (.ref a1)]) s1 EF := fun t k => pre100 t (by
     refine XS.aloadN X98.here hx rfl (B d23_10) rfl rfl ?_
     exact XS.iloadN X98.here hx rfl (B d23_11) rfl k)
    obtain ⟨cq102, kq102, q102a, q102b, q102c⟩ := isOf hZ e98 SF.exa
    obtain ⟨_, _, ⟨T102, L102, k102, n102⟩, -, X102, ⟨Lc102, hQ102, l102, y102, z102⟩, st102⟩ := X98.virtualBack hx (y := mN10) (z := mN10) hown (mvT hZ (hw _ (mW 56 rfl))) (mvT hZ (hw _ (mW 57 rfl))) (notFace_of_selects (args := #[]) (mvT hZ (hw _ (mW 59 rfl)))) (mvT hZ (hw _ (mW 59 rfl))) (mvT hZ (hw _ (mW 58 rfl))) (by decide) (backOf (W := 0) (rmJC l Z a0 hw [] a1 (2 : Int32) cz fv [c0, c1, c2, c3] c2 h0 n0 Z0 O0 J0 SF (by decide) rfl) hZ (hw _ (mW 60 rfl)) (hw _ (mW 8 rfl)) (by decide) (by decide)) q102a q102c (g := (mkF m 12 #[rv a1, iv p1, iv (2 : Int32)] [(.int (2 : Int32)), (.ref a1)])) rfl (hM rfl) (Steps.refl _) (argsL := [(.int (2 : Int32))]) (rest := []) (lenOf pd16 rfl) rfl (Nat.le_of_eq rfl) (B d23_12) (fun _ _ => ⟨rfl, e98, wl rfl, wl rfl⟩)
    dsimp only [Pt.U, Pt.locs, Pt.cells, Pt.slots] at X102 l102 y102 z102 st102 hQ102
    subst l102 y102 z102
    obtain ⟨rfl, N102q, hq102⟩ := hQ102
    have N102 := Fr.app N98 N102q
    have pre103 : Go p e bl T102 (mkF m 15 #[rv a1, iv p1, iv (2 : Int32)] [(.int c2)]) s1 EF := fun t k => pre101 t (st102.trans k)
    have e102 : T102.heap = h0 := hq102
    obtain ⟨_, _, ⟨T104, L104, k104, n104⟩, -, X104, ⟨Lc104, hQ104, l104, y104, z104⟩, st104⟩ := Jvm.LawKit.callS X102 hx (y := mN20) hown (mvT hZ (hw _ (mW 78 rfl))) (mvT hZ (hw _ (mW 79 rfl))) (mvT hZ (hw _ (mW 30 rfl))) (mvT hZ (hw _ (mW 80 rfl))) (by decide) (backOf (W := 0) (rmT l Z a0 hw [] c2 ta cl (expF c2) h0 n0 Z0 (S0.ext O0.2) (TB.ext O0.2) (own_eq cl HT c2)) hZ (hw _ (mW 80 rfl)) (hw _ (mW 30 rfl)) (by decide) (by decide)) (g := (mkF m 15 #[rv a1, iv p1, iv (2 : Int32)] [(.int c2)])) rfl (hM rfl) (argsL := [(.int c2)]) (rest := []) (lenOf pd17 rfl) rfl (Nat.le_of_eq rfl) (B d23_15) (fun _ _ => ⟨rfl, e102, wl rfl, wl rfl⟩)
    dsimp only [Pt.U, Pt.locs, Pt.cells, Pt.slots] at X104 l104 y104 z104 st104 hQ104
    subst l104 y104 z104
    obtain ⟨rfl, N104q, hq104⟩ := hQ104
    have N104 := Fr.app N102 N104q
    have pre105 : Go p e bl T104 (mkF m 18 #[rv a1, iv p1, iv (2 : Int32)] [(.int (expF c2))]) s1 EF := fun t k => pre103 t (st104 t k)
    have e104 : T104.heap = h0 := hq104
    by_cases hc18 : (expF c2) = (0 : Int32)
    · have pre106 : Go p e bl T104 (mkF m 27 #[rv a1, iv p1, iv (2 : Int32)] []) s1 EF := fun t k => pre105 t (XS.ifYes X104.here hx rfl (pc0 := 18) (pc' := 27) rfl (B d23_18) rfl ((if0 _ _).trans (teq hc18).1) (by decide) (by decide) k)
      have pre107 : Go p e bl T104 (mkF m 28 #[rv a1, iv p1, iv (2 : Int32)] [(.int (2 : Int32))]) s1 EF := fun t k => pre106 t (by
       exact XS.iloadN X104.here hx rfl (B d23_27) rfl k)
      exact fin1 X104 (v := some (.int (2 : Int32))) hrt hlk (wl rfl) (wl rfl) (by rw [e104]; exact ⟨by rw [← hR]; simp +decide [stepF, hv2_2, hc18], N104, rfl⟩) (fun fs hr => hEF ▸ pre107 _ (retOut X104 hx Bd.returns rfl (Or.inl ⟨rfl, Or.inl rfl, _, rfl⟩) (B d23_28) hr))
    have pre108 : Go p e bl T104 (mkF m 21 #[rv a1, iv p1, iv (2 : Int32)] []) s1 EF := fun t k => pre105 t (XS.ifNo X104.here hx rfl (B d23_18) rfl ((if0 _ _).trans (feq hc18).1) k)
    have pre109 : Go p e bl T104 (mkF m 4 #[rv a1, iv p1, iv (3 : Int32)] [(.ref a1), (.int (3 : Int32))]) s1 EF := fun t k => pre108 t (by
     refine XS.iinc X104.here hx rfl (B d23_21) rfl (l' := #[rv a1, iv p1, iv (3 : Int32)]) rfl ?_
     refine XS.goto X104.here hx rfl (pc0 := 24) (pc' := 2) rfl (B d23_24) (by decide) (by decide) ?_
     refine XS.iloadN X104.here hx rfl (B d23_2) rfl ?_
     exact XS.aloadN X104.here hx rfl (B d23_3) rfl rfl k)
    obtain ⟨cq110, kq110, q110a, q110b, q110c⟩ := isOf hZ e104 SF.exa
    obtain ⟨_, _, ⟨T110, L110, k110, n110⟩, -, X110, ⟨Lc110, hQ110, l110, y110, z110⟩, st110⟩ := X104.virtualBack hx (y := mN1) (z := mN1) hown (mvT hZ (hw _ (mW 32 rfl))) (mvT hZ (hw _ (mW 33 rfl))) (notFace_of_selects (args := #[]) (mvT hZ (hw _ (mW 35 rfl)))) (mvT hZ (hw _ (mW 35 rfl))) (mvT hZ (hw _ (mW 34 rfl))) (by decide) (backOf (W := 1) (rmJL l Z a0 hw [] a1 cz fv [c0, c1, c2, c3] (4 : Int32) h0 n0 Z0 O0 J0 SF (by rfl)) hZ (hw _ (mW 36 rfl)) (hw _ (mW 8 rfl)) (by decide) (by decide)) q110a q110c (g := (mkF m 4 #[rv a1, iv p1, iv (3 : Int32)] [(.ref a1), (.int (3 : Int32))])) rfl (hM rfl) (Steps.refl _) (argsL := []) (rest := [(.int (3 : Int32))]) (lenOf pd15 rfl) rfl (Nat.le_of_eq rfl) (B d23_4) (fun _ _ => ⟨rfl, e104, wl rfl, wl rfl⟩)
    dsimp only [Pt.U, Pt.locs, Pt.cells, Pt.slots] at X110 l110 y110 z110 st110 hQ110
    subst l110 y110 z110
    obtain ⟨rfl, N110q, hq110⟩ := hQ110
    have N110 := Fr.app N104 N110q
    have pre111 : Go p e bl T110 (mkF m 7 #[rv a1, iv p1, iv (3 : Int32)] [(.int (4 : Int32)), (.int (3 : Int32))]) s1 EF := fun t k => pre109 t (st110.trans k)
    have e110 : T110.heap = h0 := hq110
    have pre112 : Go p e bl T110 (mkF m 10 #[rv a1, iv p1, iv (3 : Int32)] []) s1 EF := fun t k => pre111 t (XS.icmpNo X110.here hx rfl (B d23_7) rfl (tlt (by decide : (3 : Int32) < (4 : Int32))).2.1 k)
    have pre113 : Go p e bl T110 (mkF m 12 #[rv a1, iv p1, iv (3 : Int32)] [(.int (3 : Int32)), (.ref a1)]) s1 EF := fun t k => pre112 t (by
     refine XS.aloadN X110.here hx rfl (B d23_10) rfl rfl ?_
     exact XS.iloadN X110.here hx rfl (B d23_11) rfl k)
    obtain ⟨cq114, kq114, q114a, q114b, q114c⟩ := isOf hZ e110 SF.exa
    obtain ⟨_, _, ⟨T114, L114, k114, n114⟩, -, X114, ⟨Lc114, hQ114, l114, y114, z114⟩, st114⟩ := X110.virtualBack hx (y := mN10) (z := mN10) hown (mvT hZ (hw _ (mW 56 rfl))) (mvT hZ (hw _ (mW 57 rfl))) (notFace_of_selects (args := #[]) (mvT hZ (hw _ (mW 59 rfl)))) (mvT hZ (hw _ (mW 59 rfl))) (mvT hZ (hw _ (mW 58 rfl))) (by decide) (backOf (W := 0) (rmJC l Z a0 hw [] a1 (3 : Int32) cz fv [c0, c1, c2, c3] c3 h0 n0 Z0 O0 J0 SF (by decide) rfl) hZ (hw _ (mW 60 rfl)) (hw _ (mW 8 rfl)) (by decide) (by decide)) q114a q114c (g := (mkF m 12 #[rv a1, iv p1, iv (3 : Int32)] [(.int (3 : Int32)), (.ref a1)])) rfl (hM rfl) (Steps.refl _) (argsL := [(.int (3 : Int32))]) (rest := []) (lenOf pd16 rfl) rfl (Nat.le_of_eq rfl) (B d23_12) (fun _ _ => ⟨rfl, e110, wl rfl, wl rfl⟩)
    dsimp only [Pt.U, Pt.locs, Pt.cells, Pt.slots] at X114 l114 y114 z114 st114 hQ114
    subst l114 y114 z114
    obtain ⟨rfl, N114q, hq114⟩ := hQ114
    have N114 := Fr.app N110 N114q
    have pre115 : Go p e bl T114 (mkF m 15 #[rv a1, iv p1, iv (3 : Int32)] [(.int c3)]) s1 EF := fun t k => pre113 t (st114.trans k)
    have e114 : T114.heap = h0 := hq114
    obtain ⟨_, _, ⟨T116, L116, k116, n116⟩, -, X116, ⟨Lc116, hQ116, l116, y116, z116⟩, st116⟩ := Jvm.LawKit.callS X114 hx (y := mN20) hown (mvT hZ (hw _ (mW 78 rfl))) (mvT hZ (hw _ (mW 79 rfl))) (mvT hZ (hw _ (mW 30 rfl))) (mvT hZ (hw _ (mW 80 rfl))) (by decide) (backOf (W := 0) (rmT l Z a0 hw [] c3 ta cl (expF c3) h0 n0 Z0 (S0.ext O0.2) (TB.ext O0.2) (own_eq cl HT c3)) hZ (hw _ (mW 80 rfl)) (hw _ (mW 30 rfl)) (by decide) (by decide)) (g := (mkF m 15 #[rv a1, iv p1, iv (3 : Int32)] [(.int c3)])) rfl (hM rfl) (argsL := [(.int c3)]) (rest := []) (lenOf pd17 rfl) rfl (Nat.le_of_eq rfl) (B d23_15) (fun _ _ => ⟨rfl, e114, wl rfl, wl rfl⟩)
    dsimp only [Pt.U, Pt.locs, Pt.cells, Pt.slots] at X116 l116 y116 z116 st116 hQ116
    subst l116 y116 z116
    obtain ⟨rfl, N116q, hq116⟩ := hQ116
    have N116 := Fr.app N114 N116q
    have pre117 : Go p e bl T116 (mkF m 18 #[rv a1, iv p1, iv (3 : Int32)] [(.int (expF c3))]) s1 EF := fun t k => pre115 t (st116 t k)
    have e116 : T116.heap = h0 := hq116
    by_cases hc18' : (expF c3) = (0 : Int32)
    · have pre118 : Go p e bl T116 (mkF m 27 #[rv a1, iv p1, iv (3 : Int32)] []) s1 EF := fun t k => pre117 t (XS.ifYes X116.here hx rfl (pc0 := 18) (pc' := 27) rfl (B d23_18) rfl ((if0 _ _).trans (teq hc18').1) (by decide) (by decide) k)
      have pre119 : Go p e bl T116 (mkF m 28 #[rv a1, iv p1, iv (3 : Int32)] [(.int (3 : Int32))]) s1 EF := fun t k => pre118 t (by
       exact XS.iloadN X116.here hx rfl (B d23_27) rfl k)
      exact fin1 X116 (v := some (.int (3 : Int32))) hrt hlk (wl rfl) (wl rfl) (by rw [e116]; exact ⟨by rw [← hR]; simp +decide [stepF, hv2_2, hc18, hc18'], N116, rfl⟩) (fun fs hr => hEF ▸ pre119 _ (retOut X116 hx Bd.returns rfl (Or.inl ⟨rfl, Or.inl rfl, _, rfl⟩) (B d23_28) hr))
    have pre120 : Go p e bl T116 (mkF m 21 #[rv a1, iv p1, iv (3 : Int32)] []) s1 EF := fun t k => pre117 t (XS.ifNo X116.here hx rfl (B d23_18) rfl ((if0 _ _).trans (feq hc18').1) k)
    have pre121 : Go p e bl T116 (mkF m 4 #[rv a1, iv p1, iv (4 : Int32)] [(.ref a1), (.int (4 : Int32))]) s1 EF := fun t k => pre120 t (by
     refine XS.iinc X116.here hx rfl (B d23_21) rfl (l' := #[rv a1, iv p1, iv (4 : Int32)]) rfl ?_
     refine XS.goto X116.here hx rfl (pc0 := 24) (pc' := 2) rfl (B d23_24) (by decide) (by decide) ?_
     refine XS.iloadN X116.here hx rfl (B d23_2) rfl ?_
     exact XS.aloadN X116.here hx rfl (B d23_3) rfl rfl k)
    obtain ⟨cq122, kq122, q122a, q122b, q122c⟩ := isOf hZ e116 SF.exa
    obtain ⟨_, _, ⟨T122, L122, k122, n122⟩, -, X122, ⟨Lc122, hQ122, l122, y122, z122⟩, st122⟩ := X116.virtualBack hx (y := mN1) (z := mN1) hown (mvT hZ (hw _ (mW 32 rfl))) (mvT hZ (hw _ (mW 33 rfl))) (notFace_of_selects (args := #[]) (mvT hZ (hw _ (mW 35 rfl)))) (mvT hZ (hw _ (mW 35 rfl))) (mvT hZ (hw _ (mW 34 rfl))) (by decide) (backOf (W := 1) (rmJL l Z a0 hw [] a1 cz fv [c0, c1, c2, c3] (4 : Int32) h0 n0 Z0 O0 J0 SF (by rfl)) hZ (hw _ (mW 36 rfl)) (hw _ (mW 8 rfl)) (by decide) (by decide)) q122a q122c (g := (mkF m 4 #[rv a1, iv p1, iv (4 : Int32)] [(.ref a1), (.int (4 : Int32))])) rfl (hM rfl) (Steps.refl _) (argsL := []) (rest := [(.int (4 : Int32))]) (lenOf pd15 rfl) rfl (Nat.le_of_eq rfl) (B d23_4) (fun _ _ => ⟨rfl, e116, wl rfl, wl rfl⟩)
    dsimp only [Pt.U, Pt.locs, Pt.cells, Pt.slots] at X122 l122 y122 z122 st122 hQ122
    subst l122 y122 z122
    obtain ⟨rfl, N122q, hq122⟩ := hQ122
    have N122 := Fr.app N116 N122q
    have pre123 : Go p e bl T122 (mkF m 7 #[rv a1, iv p1, iv (4 : Int32)] [(.int (4 : Int32)), (.int (4 : Int32))]) s1 EF := fun t k => pre121 t (st122.trans k)
    have e122 : T122.heap = h0 := hq122
    have pre124 : Go p e bl T122 (mkF m 27 #[rv a1, iv p1, iv (4 : Int32)] []) s1 EF := fun t k => pre123 t (XS.icmpYes X122.here hx rfl (pc0 := 7) (pc' := 27) rfl (B d23_7) rfl (flt (by decide : ¬ ((4 : Int32) < (4 : Int32)))).2.1 (by decide) (by decide) k)
    have pre125 : Go p e bl T122 (mkF m 28 #[rv a1, iv p1, iv (4 : Int32)] [(.int (4 : Int32))]) s1 EF := fun t k => pre124 t (by
     exact XS.iloadN X122.here hx rfl (B d23_27) rfl k)
    exact fin1 X122 (v := some (.int (4 : Int32))) hrt hlk (wl rfl) (wl rfl) (by rw [e122]; exact ⟨by rw [← hR]; simp +decide [stepF, hv2_2, hc18, hc18'], N122, rfl⟩) (fun fs hr => hEF ▸ pre125 _ (retOut X122 hx Bd.returns rfl (Or.inl ⟨rfl, Or.inl rfl, _, rfl⟩) (B d23_28) hr))
  · have pre126 : Go p e bl s1 (mkF m 4 #[rv a1, iv p1, iv (3 : Int32)] [(.ref a1), (.int (3 : Int32))]) s1 EF := fun t k => pre1 t (by
     refine XS.istoreN X0.here hx rfl (B d23_1) rfl (l' := #[rv a1, iv p1, iv (3 : Int32)]) (by rw [hv2_3]; rfl) ?_
     refine XS.iloadN X0.here hx rfl (B d23_2) rfl ?_
     exact XS.aloadN X0.here hx rfl (B d23_3) rfl rfl k)
    obtain ⟨cq127, kq127, q127a, q127b, q127c⟩ := isOf hZ e0 SF.exa
    obtain ⟨_, _, ⟨T127, L127, k127, n127⟩, -, X127, ⟨Lc127, hQ127, l127, y127, z127⟩, st127⟩ := X0.virtualBack hx (y := mN1) (z := mN1) hown (mvT hZ (hw _ (mW 32 rfl))) (mvT hZ (hw _ (mW 33 rfl))) (notFace_of_selects (args := #[]) (mvT hZ (hw _ (mW 35 rfl)))) (mvT hZ (hw _ (mW 35 rfl))) (mvT hZ (hw _ (mW 34 rfl))) (by decide) (backOf (W := 1) (rmJL l Z a0 hw [] a1 cz fv [c0, c1, c2, c3] (4 : Int32) h0 n0 Z0 O0 J0 SF (by rfl)) hZ (hw _ (mW 36 rfl)) (hw _ (mW 8 rfl)) (by decide) (by decide)) q127a q127c (g := (mkF m 4 #[rv a1, iv p1, iv (3 : Int32)] [(.ref a1), (.int (3 : Int32))])) rfl (hM rfl) (Steps.refl _) (argsL := []) (rest := [(.int (3 : Int32))]) (lenOf pd15 rfl) rfl (Nat.le_of_eq rfl) (B d23_4) (fun _ _ => ⟨rfl, e0, wl rfl, wl rfl⟩)
    dsimp only [Pt.U, Pt.locs, Pt.cells, Pt.slots] at X127 l127 y127 z127 st127 hQ127
    subst l127 y127 z127
    obtain ⟨rfl, N127q, hq127⟩ := hQ127
    have N127 := Fr.app N0 N127q
    have pre128 : Go p e bl T127 (mkF m 7 #[rv a1, iv p1, iv (3 : Int32)] [(.int (4 : Int32)), (.int (3 : Int32))]) s1 EF := fun t k => pre126 t (st127.trans k)
    have e127 : T127.heap = h0 := hq127
    have pre129 : Go p e bl T127 (mkF m 10 #[rv a1, iv p1, iv (3 : Int32)] []) s1 EF := fun t k => pre128 t (XS.icmpNo X127.here hx rfl (B d23_7) rfl (tlt (by decide : (3 : Int32) < (4 : Int32))).2.1 k)
    have pre130 : Go p e bl T127 (mkF m 12 #[rv a1, iv p1, iv (3 : Int32)] [(.int (3 : Int32)), (.ref a1)]) s1 EF := fun t k => pre129 t (by
     refine XS.aloadN X127.here hx rfl (B d23_10) rfl rfl ?_
     exact XS.iloadN X127.here hx rfl (B d23_11) rfl k)
    obtain ⟨cq131, kq131, q131a, q131b, q131c⟩ := isOf hZ e127 SF.exa
    obtain ⟨_, _, ⟨T131, L131, k131, n131⟩, -, X131, ⟨Lc131, hQ131, l131, y131, z131⟩, st131⟩ := X127.virtualBack hx (y := mN10) (z := mN10) hown (mvT hZ (hw _ (mW 56 rfl))) (mvT hZ (hw _ (mW 57 rfl))) (notFace_of_selects (args := #[]) (mvT hZ (hw _ (mW 59 rfl)))) (mvT hZ (hw _ (mW 59 rfl))) (mvT hZ (hw _ (mW 58 rfl))) (by decide) (backOf (W := 0) (rmJC l Z a0 hw [] a1 (3 : Int32) cz fv [c0, c1, c2, c3] c3 h0 n0 Z0 O0 J0 SF (by decide) rfl) hZ (hw _ (mW 60 rfl)) (hw _ (mW 8 rfl)) (by decide) (by decide)) q131a q131c (g := (mkF m 12 #[rv a1, iv p1, iv (3 : Int32)] [(.int (3 : Int32)), (.ref a1)])) rfl (hM rfl) (Steps.refl _) (argsL := [(.int (3 : Int32))]) (rest := []) (lenOf pd16 rfl) rfl (Nat.le_of_eq rfl) (B d23_12) (fun _ _ => ⟨rfl, e127, wl rfl, wl rfl⟩)
    dsimp only [Pt.U, Pt.locs, Pt.cells, Pt.slots] at X131 l131 y131 z131 st131 hQ131
    subst l131 y131 z131
    obtain ⟨rfl, N131q, hq131⟩ := hQ131
    have N131 := Fr.app N127 N131q
    have pre132 : Go p e bl T131 (mkF m 15 #[rv a1, iv p1, iv (3 : Int32)] [(.int c3)]) s1 EF := fun t k => pre130 t (st131.trans k)
    have e131 : T131.heap = h0 := hq131
    obtain ⟨_, _, ⟨T133, L133, k133, n133⟩, -, X133, ⟨Lc133, hQ133, l133, y133, z133⟩, st133⟩ := Jvm.LawKit.callS X131 hx (y := mN20) hown (mvT hZ (hw _ (mW 78 rfl))) (mvT hZ (hw _ (mW 79 rfl))) (mvT hZ (hw _ (mW 30 rfl))) (mvT hZ (hw _ (mW 80 rfl))) (by decide) (backOf (W := 0) (rmT l Z a0 hw [] c3 ta cl (expF c3) h0 n0 Z0 (S0.ext O0.2) (TB.ext O0.2) (own_eq cl HT c3)) hZ (hw _ (mW 80 rfl)) (hw _ (mW 30 rfl)) (by decide) (by decide)) (g := (mkF m 15 #[rv a1, iv p1, iv (3 : Int32)] [(.int c3)])) rfl (hM rfl) (argsL := [(.int c3)]) (rest := []) (lenOf pd17 rfl) rfl (Nat.le_of_eq rfl) (B d23_15) (fun _ _ => ⟨rfl, e131, wl rfl, wl rfl⟩)
    dsimp only [Pt.U, Pt.locs, Pt.cells, Pt.slots] at X133 l133 y133 z133 st133 hQ133
    subst l133 y133 z133
    obtain ⟨rfl, N133q, hq133⟩ := hQ133
    have N133 := Fr.app N131 N133q
    have pre134 : Go p e bl T133 (mkF m 18 #[rv a1, iv p1, iv (3 : Int32)] [(.int (expF c3))]) s1 EF := fun t k => pre132 t (st133 t k)
    have e133 : T133.heap = h0 := hq133
    by_cases hc18 : (expF c3) = (0 : Int32)
    · have pre135 : Go p e bl T133 (mkF m 27 #[rv a1, iv p1, iv (3 : Int32)] []) s1 EF := fun t k => pre134 t (XS.ifYes X133.here hx rfl (pc0 := 18) (pc' := 27) rfl (B d23_18) rfl ((if0 _ _).trans (teq hc18).1) (by decide) (by decide) k)
      have pre136 : Go p e bl T133 (mkF m 28 #[rv a1, iv p1, iv (3 : Int32)] [(.int (3 : Int32))]) s1 EF := fun t k => pre135 t (by
       exact XS.iloadN X133.here hx rfl (B d23_27) rfl k)
      exact fin1 X133 (v := some (.int (3 : Int32))) hrt hlk (wl rfl) (wl rfl) (by rw [e133]; exact ⟨by rw [← hR]; simp +decide [stepF, hv2_3, hc18], N133, rfl⟩) (fun fs hr => hEF ▸ pre136 _ (retOut X133 hx Bd.returns rfl (Or.inl ⟨rfl, Or.inl rfl, _, rfl⟩) (B d23_28) hr))
    have pre137 : Go p e bl T133 (mkF m 21 #[rv a1, iv p1, iv (3 : Int32)] []) s1 EF := fun t k => pre134 t (XS.ifNo X133.here hx rfl (B d23_18) rfl ((if0 _ _).trans (feq hc18).1) k)
    have pre138 : Go p e bl T133 (mkF m 4 #[rv a1, iv p1, iv (4 : Int32)] [(.ref a1), (.int (4 : Int32))]) s1 EF := fun t k => pre137 t (by
     refine XS.iinc X133.here hx rfl (B d23_21) rfl (l' := #[rv a1, iv p1, iv (4 : Int32)]) rfl ?_
     refine XS.goto X133.here hx rfl (pc0 := 24) (pc' := 2) rfl (B d23_24) (by decide) (by decide) ?_
     refine XS.iloadN X133.here hx rfl (B d23_2) rfl ?_
     exact XS.aloadN X133.here hx rfl (B d23_3) rfl rfl k)
    obtain ⟨cq139, kq139, q139a, q139b, q139c⟩ := isOf hZ e133 SF.exa
    obtain ⟨_, _, ⟨T139, L139, k139, n139⟩, -, X139, ⟨Lc139, hQ139, l139, y139, z139⟩, st139⟩ := X133.virtualBack hx (y := mN1) (z := mN1) hown (mvT hZ (hw _ (mW 32 rfl))) (mvT hZ (hw _ (mW 33 rfl))) (notFace_of_selects (args := #[]) (mvT hZ (hw _ (mW 35 rfl)))) (mvT hZ (hw _ (mW 35 rfl))) (mvT hZ (hw _ (mW 34 rfl))) (by decide) (backOf (W := 1) (rmJL l Z a0 hw [] a1 cz fv [c0, c1, c2, c3] (4 : Int32) h0 n0 Z0 O0 J0 SF (by rfl)) hZ (hw _ (mW 36 rfl)) (hw _ (mW 8 rfl)) (by decide) (by decide)) q139a q139c (g := (mkF m 4 #[rv a1, iv p1, iv (4 : Int32)] [(.ref a1), (.int (4 : Int32))])) rfl (hM rfl) (Steps.refl _) (argsL := []) (rest := [(.int (4 : Int32))]) (lenOf pd15 rfl) rfl (Nat.le_of_eq rfl) (B d23_4) (fun _ _ => ⟨rfl, e133, wl rfl, wl rfl⟩)
    dsimp only [Pt.U, Pt.locs, Pt.cells, Pt.slots] at X139 l139 y139 z139 st139 hQ139
    subst l139 y139 z139
    obtain ⟨rfl, N139q, hq139⟩ := hQ139
    have N139 := Fr.app N133 N139q
    have pre140 : Go p e bl T139 (mkF m 7 #[rv a1, iv p1, iv (4 : Int32)] [(.int (4 : Int32)), (.int (4 : Int32))]) s1 EF := fun t k => pre138 t (st139.trans k)
    have e139 : T139.heap = h0 := hq139
    have pre141 : Go p e bl T139 (mkF m 27 #[rv a1, iv p1, iv (4 : Int32)] []) s1 EF := fun t k => pre140 t (XS.icmpYes X139.here hx rfl (pc0 := 7) (pc' := 27) rfl (B d23_7) rfl (flt (by decide : ¬ ((4 : Int32) < (4 : Int32)))).2.1 (by decide) (by decide) k)
    have pre142 : Go p e bl T139 (mkF m 28 #[rv a1, iv p1, iv (4 : Int32)] [(.int (4 : Int32))]) s1 EF := fun t k => pre141 t (by
     exact XS.iloadN X139.here hx rfl (B d23_27) rfl k)
    exact fin1 X139 (v := some (.int (4 : Int32))) hrt hlk (wl rfl) (wl rfl) (by rw [e139]; exact ⟨by rw [← hR]; simp +decide [stepF, hv2_3, hc18], N139, rfl⟩) (fun fs hr => hEF ▸ pre142 _ (retOut X139 hx Bd.returns rfl (Or.inl ⟨rfl, Or.inl rfl, _, rfl⟩) (B d23_28) hr))
  · have pre143 : Go p e bl s1 (mkF m 4 #[rv a1, iv p1, iv (4 : Int32)] [(.ref a1), (.int (4 : Int32))]) s1 EF := fun t k => pre1 t (by
     refine XS.istoreN X0.here hx rfl (B d23_1) rfl (l' := #[rv a1, iv p1, iv (4 : Int32)]) (by rw [hv2_4]; rfl) ?_
     refine XS.iloadN X0.here hx rfl (B d23_2) rfl ?_
     exact XS.aloadN X0.here hx rfl (B d23_3) rfl rfl k)
    obtain ⟨cq144, kq144, q144a, q144b, q144c⟩ := isOf hZ e0 SF.exa
    obtain ⟨_, _, ⟨T144, L144, k144, n144⟩, -, X144, ⟨Lc144, hQ144, l144, y144, z144⟩, st144⟩ := X0.virtualBack hx (y := mN1) (z := mN1) hown (mvT hZ (hw _ (mW 32 rfl))) (mvT hZ (hw _ (mW 33 rfl))) (notFace_of_selects (args := #[]) (mvT hZ (hw _ (mW 35 rfl)))) (mvT hZ (hw _ (mW 35 rfl))) (mvT hZ (hw _ (mW 34 rfl))) (by decide) (backOf (W := 1) (rmJL l Z a0 hw [] a1 cz fv [c0, c1, c2, c3] (4 : Int32) h0 n0 Z0 O0 J0 SF (by rfl)) hZ (hw _ (mW 36 rfl)) (hw _ (mW 8 rfl)) (by decide) (by decide)) q144a q144c (g := (mkF m 4 #[rv a1, iv p1, iv (4 : Int32)] [(.ref a1), (.int (4 : Int32))])) rfl (hM rfl) (Steps.refl _) (argsL := []) (rest := [(.int (4 : Int32))]) (lenOf pd15 rfl) rfl (Nat.le_of_eq rfl) (B d23_4) (fun _ _ => ⟨rfl, e0, wl rfl, wl rfl⟩)
    dsimp only [Pt.U, Pt.locs, Pt.cells, Pt.slots] at X144 l144 y144 z144 st144 hQ144
    subst l144 y144 z144
    obtain ⟨rfl, N144q, hq144⟩ := hQ144
    have N144 := Fr.app N0 N144q
    have pre145 : Go p e bl T144 (mkF m 7 #[rv a1, iv p1, iv (4 : Int32)] [(.int (4 : Int32)), (.int (4 : Int32))]) s1 EF := fun t k => pre143 t (st144.trans k)
    have e144 : T144.heap = h0 := hq144
    have pre146 : Go p e bl T144 (mkF m 27 #[rv a1, iv p1, iv (4 : Int32)] []) s1 EF := fun t k => pre145 t (XS.icmpYes X144.here hx rfl (pc0 := 7) (pc' := 27) rfl (B d23_7) rfl (flt (by decide : ¬ ((4 : Int32) < (4 : Int32)))).2.1 (by decide) (by decide) k)
    have pre147 : Go p e bl T144 (mkF m 28 #[rv a1, iv p1, iv (4 : Int32)] [(.int (4 : Int32))]) s1 EF := fun t k => pre146 t (by
     exact XS.iloadN X144.here hx rfl (B d23_27) rfl k)
    exact fin1 X144 (v := some (.int (4 : Int32))) hrt hlk (wl rfl) (wl rfl) (by rw [e144]; exact ⟨by rw [← hR]; simp +decide [stepF, hv2_4], N144, rfl⟩) (fun fs hr => hEF ▸ pre147 _ (retOut X144 hx Bd.returns rfl (Or.inl ⟨rfl, Or.inl rfl, _, rfl⟩) (B d23_28) hr))
  have pre148 : Go p e bl s1 (mkF m 4 #[rv a1, iv p1, iv (5 : Int32)] [(.ref a1), (.int (5 : Int32))]) s1 EF := fun t k => pre1 t (by
   refine XS.istoreN X0.here hx rfl (B d23_1) rfl (l' := #[rv a1, iv p1, iv (5 : Int32)]) (by rw [hv2_5]; rfl) ?_
   refine XS.iloadN X0.here hx rfl (B d23_2) rfl ?_
   exact XS.aloadN X0.here hx rfl (B d23_3) rfl rfl k)
  obtain ⟨cq149, kq149, q149a, q149b, q149c⟩ := isOf hZ e0 SF.exa
  obtain ⟨_, _, ⟨T149, L149, k149, n149⟩, -, X149, ⟨Lc149, hQ149, l149, y149, z149⟩, st149⟩ := X0.virtualBack hx (y := mN1) (z := mN1) hown (mvT hZ (hw _ (mW 32 rfl))) (mvT hZ (hw _ (mW 33 rfl))) (notFace_of_selects (args := #[]) (mvT hZ (hw _ (mW 35 rfl)))) (mvT hZ (hw _ (mW 35 rfl))) (mvT hZ (hw _ (mW 34 rfl))) (by decide) (backOf (W := 1) (rmJL l Z a0 hw [] a1 cz fv [c0, c1, c2, c3] (4 : Int32) h0 n0 Z0 O0 J0 SF (by rfl)) hZ (hw _ (mW 36 rfl)) (hw _ (mW 8 rfl)) (by decide) (by decide)) q149a q149c (g := (mkF m 4 #[rv a1, iv p1, iv (5 : Int32)] [(.ref a1), (.int (5 : Int32))])) rfl (hM rfl) (Steps.refl _) (argsL := []) (rest := [(.int (5 : Int32))]) (lenOf pd15 rfl) rfl (Nat.le_of_eq rfl) (B d23_4) (fun _ _ => ⟨rfl, e0, wl rfl, wl rfl⟩)
  dsimp only [Pt.U, Pt.locs, Pt.cells, Pt.slots] at X149 l149 y149 z149 st149 hQ149
  subst l149 y149 z149
  obtain ⟨rfl, N149q, hq149⟩ := hQ149
  have N149 := Fr.app N0 N149q
  have pre150 : Go p e bl T149 (mkF m 7 #[rv a1, iv p1, iv (5 : Int32)] [(.int (4 : Int32)), (.int (5 : Int32))]) s1 EF := fun t k => pre148 t (st149.trans k)
  have e149 : T149.heap = h0 := hq149
  have pre151 : Go p e bl T149 (mkF m 27 #[rv a1, iv p1, iv (5 : Int32)] []) s1 EF := fun t k => pre150 t (XS.icmpYes X149.here hx rfl (pc0 := 7) (pc' := 27) rfl (B d23_7) rfl (flt (by decide : ¬ ((5 : Int32) < (4 : Int32)))).2.1 (by decide) (by decide) k)
  have pre152 : Go p e bl T149 (mkF m 28 #[rv a1, iv p1, iv (5 : Int32)] [(.int (5 : Int32))]) s1 EF := fun t k => pre151 t (by
   exact XS.iloadN X149.here hx rfl (B d23_27) rfl k)
  exact fin1 X149 (v := some (.int (5 : Int32))) hrt hlk (wl rfl) (wl rfl) (by rw [e149]; exact ⟨by rw [← hR]; simp +decide [stepF, hv2_5], N149, rfl⟩) (fun fs hr => hEF ▸ pre152 _ (retOut X149 hx Bd.returns rfl (Or.inl ⟨rfl, Or.inl rfl, _, rfl⟩) (B d23_28) hr))
theorem pd18 : parseMethodDescriptor "(ICCCC)Ljava/lang/String;" = some ⟨[.int, .char, .char, .char, .char], some (.object "java/lang/String")⟩ := by decide +kernel
theorem pd19 : parseMethodDescriptor "(Ljava/lang/String;I)I" = some ⟨[(.object "java/lang/String"), .int], some .int⟩ := by decide +kernel
theorem pd20 : parseMethodDescriptor "(C)Z" = some ⟨[.char], some .boolean⟩ := by decide +kernel
theorem efL (m : MethodId) (p1 : Int32) (p2 : Int32) (p3 : Int32) (p4 : Int32) (p5 : Int32) (p6 : Int32) : entryFrame m #[(.int p1), (.int p2), (.int p3), (.int p4), (.int p5), (.int p6)] maxLocals = mkF m 0 #[iv p1, iv p2, iv p3, iv p4, iv p5, iv p6, .unset, .unset, .unset, .unset, .unset, .unset, .unset, .unset, .unset] [] := by first | (simp [entryFrame, mkF, argsToLocals, Value.category, maxLocals]; done) | rfl
def QL (Z : State) (p1 : Int32) (p2 : Int32) (p3 : Int32) (p4 : Int32) (p5 : Int32) (p6 : Int32) (cz : Int32) (fv : Value) (ta : Addr) (cl : Cell) (h0 : Heap) (n0 : Nat) (v : Option Value) (h : Heap) (L : List Loc) : Prop := v = some (.int 1) ∧ Fr n0 L
set_option maxRecDepth 65536 in
set_option maxHeartbeats 40000000 in
theorem rmL (l : Launch) (Z : State) (a0 : Array Value) (hw : HW a0 Z) (ws : List Jvm.Cond) (p1 : Int32) (p2 : Int32) (p3 : Int32) (p4 : Int32) (p5 : Int32) (p6 : Int32) (cz : Int32) (fv : Value) (ta : Addr) (cl : Cell) (h0 : Heap) (n0 : Nat) (Z0 : n0 ≤ h0.size) (O0 : Old Z n0 h0) (J0 : Jd Z cz fv) (S0 : Sta Z Z.heap "com/example/oxpecker/oxpecker/http/HttpInput" "TOKEN" "[Z" (.ref ta)) (TB : Tab Z Z.heap ta cl .boolean 128) (HT : ∀ j : Int32, ¬ j < 0 → j < 128 → atv cl j = expF j) :
    MetFree l x (head1 (Jvm.Cond.code x code maxLocals ret :: ws) room_1) (fun a U => a = #[(.int p1), (.int p2), (.int p3), (.int p4), (.int p5), (.int p6)] ∧ Z.Warmed39 U.vm ∧ U.heap = h0 ∧ CHv Z [("java/lang/String", 7)] U.vm h0) (fun _ _ _ _ _ => True) (fun _ U o U' => ∃ v L, o = .returned v ∧ QL Z p1 p2 p3 p4 p5 p6 cz fv ta cl h0 n0 v U'.heap L ∧ CHr Z [("java/lang/String", 7)] U.vm U.heap U'.vm U'.heap ∧ ReturnedEndW U o U' L room_1.cells room_1.slots) := by
  refine MetFree.of_bodySF (plainFor_of_name pn5) hisR ?_
  intro p e s m args bl meth c s1 Bd hml0 hP hK
  obtain ⟨rfl, hZ, hh, hC⟩ := hP
  have hx := Bd.exec
  have hby := Bd.bytes
  have B := @hb c _ hby
  have hM := fun {n : Nat} (h : n = maxLocals) => h.trans hml0.symm
  have hown : s.vm.findClass "com/example/oxpecker/oxpecker/http/HttpInputTokenEndPinLaw" = some m.cls := findClass_of_methodNamed Bd.named
  have X0 : Stand p l e room_1 (s.setVm s.vm) m #[(.int p1), (.int p2), (.int p3), (.int p4), (.int p5), (.int p6)] bl meth c s1 [] 0 0 := Stand.of_body Bd
  have e0 : s1.heap = h0 := by rw [← hh, Bd.state]; rfl
  have N0 := Fr.nil n0
  obtain ⟨EF, hEF⟩ : ∃ f, f = entryFrame m #[(.int p1), (.int p2), (.int p3), (.int p4), (.int p5), (.int p6)] maxLocals := ⟨_, rfl⟩
  have pre0 : Go p e bl s1 (mkF m 0 #[iv p1, iv p2, iv p3, iv p4, iv p5, iv p6, .unset, .unset, .unset, .unset, .unset, .unset, .unset, .unset, .unset] []) s1 EF := fun t k => by rw [hEF]; exact castTop (efL m p1 p2 p3 p4 p5 p6) k
  have hZ0 : Z.Warmed39 (s.setVm s.vm).vm := hZ
  have hown0 : (s.setVm s.vm).vm.findClass "com/example/oxpecker/oxpecker/http/HttpInputTokenEndPinLaw" = some m.cls := hown
  have hS0 : s.Since s.vm s.heap.size := (State.WarmedH.refl s).since _
  have hk0 : s.heap.size ≤ h0.size := by rw [← hh]; exact Nat.le_refl _
  obtain ⟨n1, e_n1⟩ : ∃ z : Int32, z = ((p5 &&& (2147483647 : Int32)) % (5 : Int32)) := ⟨_, rfl⟩
  obtain ⟨f1, e_f1⟩ : ∃ z : Int32, z = ((p6 &&& (2147483647 : Int32)) % (6 : Int32)) := ⟨_, rfl⟩
  obtain ⟨ca, e_ca⟩ : ∃ z : Int32, z = ((p1 &&& (65535 : Int32)).toUInt32.toUInt16.toUInt32.toInt32) := ⟨_, rfl⟩
  obtain ⟨cb, e_cb⟩ : ∃ z : Int32, z = ((p2 &&& (65535 : Int32)).toUInt32.toUInt16.toUInt32.toInt32) := ⟨_, rfl⟩
  obtain ⟨cc, e_cc⟩ : ∃ z : Int32, z = ((p3 &&& (65535 : Int32)).toUInt32.toUInt16.toUInt32.toInt32) := ⟨_, rfl⟩
  obtain ⟨cd, e_cd⟩ : ∃ z : Int32, z = ((p4 &&& (65535 : Int32)).toUInt32.toUInt16.toUInt32.toInt32) := ⟨_, rfl⟩
  have pre1 : Go p e bl s1 (mkF m 47 #[iv p1, iv p2, iv p3, iv p4, iv p5, iv p6, iv n1, iv f1, iv ca, iv cb, iv cc, iv cd, .unset, .unset, .unset] []) s1 EF := fun t k => pre0 t (by
   refine XS.iload X0.here hx rfl (B at_0) rfl ?_
   refine X0.ldcInt hx hown0 (mvT hZ0 (hw _ (mW 0 rfl))) (g := (mkF m 2 #[iv p1, iv p2, iv p3, iv p4, iv p5, iv p6, .unset, .unset, .unset, .unset, .unset, .unset, .unset, .unset, .unset] [(.int p5)])) rfl (B at_2) _ ?_
   refine XS.iand X0.here hx rfl (B at_4) rfl ?_
   refine XS.iconst X0.here hx rfl (B at_5) ?_
   refine iremM X0 hx rfl (B at_6) rfl (by decide) ?_
   refine XS.istore X0.here hx rfl (B at_7) rfl (l' := #[iv p1, iv p2, iv p3, iv p4, iv p5, iv p6, iv n1, .unset, .unset, .unset, .unset, .unset, .unset, .unset, .unset]) (by rw [e_n1]; rfl) ?_
   refine XS.iload X0.here hx rfl (B at_9) rfl ?_
   refine X0.ldcInt hx hown0 (mvT hZ0 (hw _ (mW 0 rfl))) (g := (mkF m 11 #[iv p1, iv p2, iv p3, iv p4, iv p5, iv p6, iv n1, .unset, .unset, .unset, .unset, .unset, .unset, .unset, .unset] [(.int p6)])) rfl (B at_11) _ ?_
   refine XS.iand X0.here hx rfl (B at_13) rfl ?_
   refine XS.bipush X0.here hx rfl (B at_14) ?_
   refine iremM X0 hx rfl (B at_16) rfl (by decide) ?_
   refine XS.istore X0.here hx rfl (B at_17) rfl (l' := #[iv p1, iv p2, iv p3, iv p4, iv p5, iv p6, iv n1, iv f1, .unset, .unset, .unset, .unset, .unset, .unset, .unset]) (by rw [e_f1]; rfl) ?_
   refine XS.iloadN X0.here hx rfl (B at_19) rfl ?_
   refine X0.ldcInt hx hown0 (mvT hZ0 (hw _ (mW 1 rfl))) (g := (mkF m 20 #[iv p1, iv p2, iv p3, iv p4, iv p5, iv p6, iv n1, iv f1, .unset, .unset, .unset, .unset, .unset, .unset, .unset] [(.int p1)])) rfl (B at_20) _ ?_
   refine XS.iand X0.here hx rfl (B at_22) rfl ?_
   refine XS.i2c X0.here hx rfl (B at_23) rfl ?_
   refine XS.istore X0.here hx rfl (B at_24) rfl (l' := #[iv p1, iv p2, iv p3, iv p4, iv p5, iv p6, iv n1, iv f1, iv ca, .unset, .unset, .unset, .unset, .unset, .unset]) (by rw [e_ca]; rfl) ?_
   refine XS.iloadN X0.here hx rfl (B at_26) rfl ?_
   refine X0.ldcInt hx hown0 (mvT hZ0 (hw _ (mW 1 rfl))) (g := (mkF m 27 #[iv p1, iv p2, iv p3, iv p4, iv p5, iv p6, iv n1, iv f1, iv ca, .unset, .unset, .unset, .unset, .unset, .unset] [(.int p2)])) rfl (B at_27) _ ?_
   refine XS.iand X0.here hx rfl (B at_29) rfl ?_
   refine XS.i2c X0.here hx rfl (B at_30) rfl ?_
   refine XS.istore X0.here hx rfl (B at_31) rfl (l' := #[iv p1, iv p2, iv p3, iv p4, iv p5, iv p6, iv n1, iv f1, iv ca, iv cb, .unset, .unset, .unset, .unset, .unset]) (by rw [e_cb]; rfl) ?_
   refine XS.iloadN X0.here hx rfl (B at_33) rfl ?_
   refine X0.ldcInt hx hown0 (mvT hZ0 (hw _ (mW 1 rfl))) (g := (mkF m 34 #[iv p1, iv p2, iv p3, iv p4, iv p5, iv p6, iv n1, iv f1, iv ca, iv cb, .unset, .unset, .unset, .unset, .unset] [(.int p3)])) rfl (B at_34) _ ?_
   refine XS.iand X0.here hx rfl (B at_36) rfl ?_
   refine XS.i2c X0.here hx rfl (B at_37) rfl ?_
   refine XS.istore X0.here hx rfl (B at_38) rfl (l' := #[iv p1, iv p2, iv p3, iv p4, iv p5, iv p6, iv n1, iv f1, iv ca, iv cb, iv cc, .unset, .unset, .unset, .unset]) (by rw [e_cc]; rfl) ?_
   refine XS.iloadN X0.here hx rfl (B at_40) rfl ?_
   refine X0.ldcInt hx hown0 (mvT hZ0 (hw _ (mW 1 rfl))) (g := (mkF m 41 #[iv p1, iv p2, iv p3, iv p4, iv p5, iv p6, iv n1, iv f1, iv ca, iv cb, iv cc, .unset, .unset, .unset, .unset] [(.int p4)])) rfl (B at_41) _ ?_
   refine XS.iand X0.here hx rfl (B at_43) rfl ?_
   refine XS.i2c X0.here hx rfl (B at_44) rfl ?_
   exact XS.istore X0.here hx rfl (B at_45) rfl (l' := #[iv p1, iv p2, iv p3, iv p4, iv p5, iv p6, iv n1, iv f1, iv ca, iv cb, iv cc, iv cd, .unset, .unset, .unset]) (by rw [e_cd]; rfl) k)
  have rca : 0 ≤ ca.toInt ∧ ca.toInt < 65536 := by rw [e_ca]; exact (c_i2c _).2
  have rcb : 0 ≤ cb.toInt ∧ cb.toInt < 65536 := by rw [e_cb]; exact (c_i2c _).2
  have rcc : 0 ≤ cc.toInt ∧ cc.toInt < 65536 := by rw [e_cc]; exact (c_i2c _).2
  have rcd : 0 ≤ cd.toInt ∧ cd.toInt < 65536 := by rw [e_cd]; exact (c_i2c _).2
  have hf1 : f1 = 0 ∨ f1 = 1 ∨ f1 = 2 ∨ f1 = 3 ∨ f1 = 4 ∨ f1 = 5 := e_f1 ▸ own_m6 p6
  rcases (e_n1 ▸ own_m5 p5 : n1 = 0 ∨ n1 = 1 ∨ n1 = 2 ∨ n1 = 3 ∨ n1 = 4) with hv2_0 | hv2_1 | hv2_2 | hv2_3 | hv2_4
  · subst hv2_0
    have pre3 : Go p e bl s1 (mkF m 57 #[iv p1, iv p2, iv p3, iv p4, iv p5, iv p6, iv (0 : Int32), iv f1, iv ca, iv cb, iv cc, iv cd, .unset, .unset, .unset] [(.int cd), (.int cc), (.int cb), (.int ca), (.int (0 : Int32))]) s1 EF := fun t k => pre1 t (by
     refine XS.iload X0.here hx rfl (B at_47) rfl ?_
     refine XS.iload X0.here hx rfl (B at_49) rfl ?_
     refine XS.iload X0.here hx rfl (B at_51) rfl ?_
     refine XS.iload X0.here hx rfl (B at_53) rfl ?_
     exact XS.iload X0.here hx rfl (B at_55) rfl k)
    obtain ⟨_, _, ⟨T4, L4, k4, n4⟩, -, XQ4, hSQ4, hgQ4, ⟨Lc4, hQ4, l4, y4, z4, hCH4⟩, st4⟩ := callSS X0 hx (y := mN22) hown0 (mvT hZ0 (hw _ (mW 2 rfl))) (mvT hZ0 (hw _ (mW 3 rfl))) (mvT hZ0 (hw _ (mW 4 rfl))) (mvT hZ0 (hw _ (mW 5 rfl))) (by decide) (backOfSH (W := 0) (rmB0 l Z a0 hw [] ca cb cc cd cz fv  h0 n0 Z0 O0 J0 rca rcb rcc rcd) hZ0 (hw _ (mW 5 rfl)) (hw _ (mW 4 rfl)) (by decide) (by decide) (own_EW hw) hC) (g := (mkF m 57 #[iv p1, iv p2, iv p3, iv p4, iv p5, iv p6, iv (0 : Int32), iv f1, iv ca, iv cb, iv cc, iv cd, .unset, .unset, .unset] [(.int cd), (.int cc), (.int cb), (.int ca), (.int (0 : Int32))])) rfl (hM rfl) (argsL := [(.int (0 : Int32)), (.int ca), (.int cb), (.int cc), (.int cd)]) (rest := []) (lenOf pd18 rfl) rfl (Nat.le_of_eq rfl) (B at_57) (fun _ _ => ⟨rfl, e0, wl rfl, wl rfl⟩)
    dsimp only [Pt.U, Pt.locs, Pt.cells, Pt.slots] at XQ4 hSQ4 hgQ4 hCH4 l4 y4 z4 st4 hQ4
    subst l4 y4 z4
    obtain ⟨X4, hS4, hZ4, hown4⟩ := rebS hS0 (by rw [e0]; exact hk0) XQ4 hSQ4 hgQ4 hZ0 hown0
    obtain ⟨sB, rfl, N4q, K4, SF4⟩ := hQ4
    have N4 := Fr.app N0 N4q
    have pre5 : Go p e bl T4 (mkF m 60 #[iv p1, iv p2, iv p3, iv p4, iv p5, iv p6, iv (0 : Int32), iv f1, iv ca, iv cb, iv cc, iv cd, .unset, .unset, .unset] [(.ref sB)]) s1 EF := fun t k => pre3 t (st4.trans k)
    have hk4 := Nat.le_refl T4.heap.size
    have R4 := (CHr.refl hC).trans hCH4
    have O6 : Old Z n0 T4.heap := O0.keep K4 all0
    have Z6 : n0 ≤ T4.heap.size := Nat.le_trans Z0 K4.1
    have pre7 : Go p e bl T4 (mkF m 66 #[iv p1, iv p2, iv p3, iv p4, iv p5, iv p6, iv (0 : Int32), iv f1, iv ca, iv cb, iv cc, iv cd, rv sB, iv (0 : Int32), .unset] []) s1 EF := fun t k => pre5 t (by
     refine XS.astore X4.here hx rfl (B at_60) rfl rfl (l' := #[iv p1, iv p2, iv p3, iv p4, iv p5, iv p6, iv (0 : Int32), iv f1, iv ca, iv cb, iv cc, iv cd, rv sB, .unset, .unset]) rfl ?_
     refine XS.iload X4.here hx rfl (B at_62) rfl ?_
     exact XS.istore X4.here hx rfl (B at_64) rfl (l' := #[iv p1, iv p2, iv p3, iv p4, iv p5, iv p6, iv (0 : Int32), iv f1, iv ca, iv cb, iv cc, iv cd, rv sB, iv (0 : Int32), .unset]) rfl k)
    obtain ⟨T8, LJ8, X8, N8, e8, pre8⟩ : ∃ (TJ : State) (LJ : List Loc) , Stand p l e room_1 (s.setVm T4.vm) m #[(.int p1), (.int p2), (.int p3), (.int p4), (.int p5), (.int p6)] bl meth c TJ LJ 6 12 ∧ Fr n0 LJ ∧ TJ.heap = T4.heap ∧ Go p e bl TJ (mkF m 89 #[iv p1, iv p2, iv p3, iv p4, iv p5, iv p6, iv (0 : Int32), iv f1, iv ca, iv cb, iv cc, iv cd, rv sB, iv (0 : Int32), .unset] []) s1 EF := by
      have pre9 : Go p e bl T4 (mkF m 69 #[iv p1, iv p2, iv p3, iv p4, iv p5, iv p6, iv (0 : Int32), iv f1, iv ca, iv cb, iv cc, iv cd, rv sB, iv (0 : Int32), .unset] [(.int f1), (.int (3 : Int32))]) s1 EF := fun t k => pre7 t (by
       refine XS.iconst X4.here hx rfl (B at_66) ?_
       exact XS.iload X4.here hx rfl (B at_67) rfl k)
      by_cases hc69 : (3 : Int32) < f1
      · have pre10 : Go p e bl T4 (mkF m 89 #[iv p1, iv p2, iv p3, iv p4, iv p5, iv p6, iv (0 : Int32), iv f1, iv ca, iv cb, iv cc, iv cd, rv sB, iv (0 : Int32), .unset] []) s1 EF := fun t k => pre9 t (XS.icmpYes X4.here hx rfl (pc0 := 69) (pc' := 89) rfl (B at_69) rfl (tlt hc69).1 (by decide) (by decide) k)
        exact ⟨_, _, X4, N4, rfl, pre10⟩
      have pre11 : Go p e bl T4 (mkF m 72 #[iv p1, iv p2, iv p3, iv p4, iv p5, iv p6, iv (0 : Int32), iv f1, iv ca, iv cb, iv cc, iv cd, rv sB, iv (0 : Int32), .unset] []) s1 EF := fun t k => pre9 t (XS.icmpNo X4.here hx rfl (B at_69) rfl (flt hc69).1 k)
      have pre12 : Go p e bl T4 (mkF m 75 #[iv p1, iv p2, iv p3, iv p4, iv p5, iv p6, iv (0 : Int32), iv f1, iv ca, iv cb, iv cc, iv cd, rv sB, iv (0 : Int32), .unset] [(.int (0 : Int32)), (.int (3 : Int32))]) s1 EF := fun t k => pre11 t (by
       refine XS.iconst X4.here hx rfl (B at_72) ?_
       exact XS.iload X4.here hx rfl (B at_73) rfl k)
      have pre13 : Go p e bl T4 (mkF m 89 #[iv p1, iv p2, iv p3, iv p4, iv p5, iv p6, iv (0 : Int32), iv f1, iv ca, iv cb, iv cc, iv cd, rv sB, iv (0 : Int32), .unset] []) s1 EF := fun t k => pre12 t (XS.icmpYes X4.here hx rfl (pc0 := 75) (pc' := 89) rfl (B at_75) rfl (flt (by decide : ¬ ((3 : Int32) < (0 : Int32)))).2.1 (by decide) (by decide) k)
      exact ⟨_, _, X4, N4, rfl, pre13⟩
    obtain ⟨T14, LJ14, X14, N14, e14, pre14⟩ : ∃ (TJ : State) (LJ : List Loc) , Stand p l e room_1 (s.setVm T4.vm) m #[(.int p1), (.int p2), (.int p3), (.int p4), (.int p5), (.int p6)] bl meth c TJ LJ 6 12 ∧ Fr n0 LJ ∧ TJ.heap = T4.heap ∧ Go p e bl TJ (mkF m 112 #[iv p1, iv p2, iv p3, iv p4, iv p5, iv p6, iv (0 : Int32), iv f1, iv ca, iv cb, iv cc, iv cd, rv sB, iv (0 : Int32), .unset] []) s1 EF := by
      have pre15 : Go p e bl T8 (mkF m 92 #[iv p1, iv p2, iv p3, iv p4, iv p5, iv p6, iv (0 : Int32), iv f1, iv ca, iv cb, iv cc, iv cd, rv sB, iv (0 : Int32), .unset] [(.int f1), (.int (2 : Int32))]) s1 EF := fun t k => pre8 t (by
       refine XS.iconst X8.here hx rfl (B at_89) ?_
       exact XS.iload X8.here hx rfl (B at_90) rfl k)
      by_cases hc92 : (2 : Int32) < f1
      · have pre16 : Go p e bl T8 (mkF m 112 #[iv p1, iv p2, iv p3, iv p4, iv p5, iv p6, iv (0 : Int32), iv f1, iv ca, iv cb, iv cc, iv cd, rv sB, iv (0 : Int32), .unset] []) s1 EF := fun t k => pre15 t (XS.icmpYes X8.here hx rfl (pc0 := 92) (pc' := 112) rfl (B at_92) rfl (tlt hc92).1 (by decide) (by decide) k)
        exact ⟨_, _, X8, N8, e8, pre16⟩
      have pre17 : Go p e bl T8 (mkF m 95 #[iv p1, iv p2, iv p3, iv p4, iv p5, iv p6, iv (0 : Int32), iv f1, iv ca, iv cb, iv cc, iv cd, rv sB, iv (0 : Int32), .unset] []) s1 EF := fun t k => pre15 t (XS.icmpNo X8.here hx rfl (B at_92) rfl (flt hc92).1 k)
      have pre18 : Go p e bl T8 (mkF m 98 #[iv p1, iv p2, iv p3, iv p4, iv p5, iv p6, iv (0 : Int32), iv f1, iv ca, iv cb, iv cc, iv cd, rv sB, iv (0 : Int32), .unset] [(.int (0 : Int32)), (.int (2 : Int32))]) s1 EF := fun t k => pre17 t (by
       refine XS.iconst X8.here hx rfl (B at_95) ?_
       exact XS.iload X8.here hx rfl (B at_96) rfl k)
      have pre19 : Go p e bl T8 (mkF m 112 #[iv p1, iv p2, iv p3, iv p4, iv p5, iv p6, iv (0 : Int32), iv f1, iv ca, iv cb, iv cc, iv cd, rv sB, iv (0 : Int32), .unset] []) s1 EF := fun t k => pre18 t (XS.icmpYes X8.here hx rfl (pc0 := 98) (pc' := 112) rfl (B at_98) rfl (flt (by decide : ¬ ((2 : Int32) < (0 : Int32)))).2.1 (by decide) (by decide) k)
      exact ⟨_, _, X8, N8, e8, pre19⟩
    obtain ⟨T20, LJ20, X20, N20, e20, pre20⟩ : ∃ (TJ : State) (LJ : List Loc) , Stand p l e room_1 (s.setVm T4.vm) m #[(.int p1), (.int p2), (.int p3), (.int p4), (.int p5), (.int p6)] bl meth c TJ LJ 6 12 ∧ Fr n0 LJ ∧ TJ.heap = T4.heap ∧ Go p e bl TJ (mkF m 135 #[iv p1, iv p2, iv p3, iv p4, iv p5, iv p6, iv (0 : Int32), iv f1, iv ca, iv cb, iv cc, iv cd, rv sB, iv (0 : Int32), .unset] []) s1 EF := by
      have pre21 : Go p e bl T14 (mkF m 115 #[iv p1, iv p2, iv p3, iv p4, iv p5, iv p6, iv (0 : Int32), iv f1, iv ca, iv cb, iv cc, iv cd, rv sB, iv (0 : Int32), .unset] [(.int f1), (.int (1 : Int32))]) s1 EF := fun t k => pre14 t (by
       refine XS.iconst X14.here hx rfl (B at_112) ?_
       exact XS.iload X14.here hx rfl (B at_113) rfl k)
      by_cases hc115 : (1 : Int32) < f1
      · have pre22 : Go p e bl T14 (mkF m 135 #[iv p1, iv p2, iv p3, iv p4, iv p5, iv p6, iv (0 : Int32), iv f1, iv ca, iv cb, iv cc, iv cd, rv sB, iv (0 : Int32), .unset] []) s1 EF := fun t k => pre21 t (XS.icmpYes X14.here hx rfl (pc0 := 115) (pc' := 135) rfl (B at_115) rfl (tlt hc115).1 (by decide) (by decide) k)
        exact ⟨_, _, X14, N14, e14, pre22⟩
      have pre23 : Go p e bl T14 (mkF m 118 #[iv p1, iv p2, iv p3, iv p4, iv p5, iv p6, iv (0 : Int32), iv f1, iv ca, iv cb, iv cc, iv cd, rv sB, iv (0 : Int32), .unset] []) s1 EF := fun t k => pre21 t (XS.icmpNo X14.here hx rfl (B at_115) rfl (flt hc115).1 k)
      have pre24 : Go p e bl T14 (mkF m 121 #[iv p1, iv p2, iv p3, iv p4, iv p5, iv p6, iv (0 : Int32), iv f1, iv ca, iv cb, iv cc, iv cd, rv sB, iv (0 : Int32), .unset] [(.int (0 : Int32)), (.int (1 : Int32))]) s1 EF := fun t k => pre23 t (by
       refine XS.iconst X14.here hx rfl (B at_118) ?_
       exact XS.iload X14.here hx rfl (B at_119) rfl k)
      have pre25 : Go p e bl T14 (mkF m 135 #[iv p1, iv p2, iv p3, iv p4, iv p5, iv p6, iv (0 : Int32), iv f1, iv ca, iv cb, iv cc, iv cd, rv sB, iv (0 : Int32), .unset] []) s1 EF := fun t k => pre24 t (XS.icmpYes X14.here hx rfl (pc0 := 121) (pc' := 135) rfl (B at_121) rfl (flt (by decide : ¬ ((1 : Int32) < (0 : Int32)))).2.1 (by decide) (by decide) k)
      exact ⟨_, _, X14, N14, e14, pre25⟩
    obtain ⟨T26, LJ26, X26, N26, e26, pre26⟩ : ∃ (TJ : State) (LJ : List Loc) , Stand p l e room_1 (s.setVm T4.vm) m #[(.int p1), (.int p2), (.int p3), (.int p4), (.int p5), (.int p6)] bl meth c TJ LJ 6 12 ∧ Fr n0 LJ ∧ TJ.heap = T4.heap ∧ Go p e bl TJ (mkF m 158 #[iv p1, iv p2, iv p3, iv p4, iv p5, iv p6, iv (0 : Int32), iv f1, iv ca, iv cb, iv cc, iv cd, rv sB, iv (0 : Int32), .unset] []) s1 EF := by
      have pre27 : Go p e bl T20 (mkF m 138 #[iv p1, iv p2, iv p3, iv p4, iv p5, iv p6, iv (0 : Int32), iv f1, iv ca, iv cb, iv cc, iv cd, rv sB, iv (0 : Int32), .unset] [(.int f1), (.int (0 : Int32))]) s1 EF := fun t k => pre20 t (by
       refine XS.iconst X20.here hx rfl (B at_135) ?_
       exact XS.iload X20.here hx rfl (B at_136) rfl k)
      by_cases hc138 : (0 : Int32) < f1
      · have pre28 : Go p e bl T20 (mkF m 158 #[iv p1, iv p2, iv p3, iv p4, iv p5, iv p6, iv (0 : Int32), iv f1, iv ca, iv cb, iv cc, iv cd, rv sB, iv (0 : Int32), .unset] []) s1 EF := fun t k => pre27 t (XS.icmpYes X20.here hx rfl (pc0 := 138) (pc' := 158) rfl (B at_138) rfl (tlt hc138).1 (by decide) (by decide) k)
        exact ⟨_, _, X20, N20, e20, pre28⟩
      have pre29 : Go p e bl T20 (mkF m 141 #[iv p1, iv p2, iv p3, iv p4, iv p5, iv p6, iv (0 : Int32), iv f1, iv ca, iv cb, iv cc, iv cd, rv sB, iv (0 : Int32), .unset] []) s1 EF := fun t k => pre27 t (XS.icmpNo X20.here hx rfl (B at_138) rfl (flt hc138).1 k)
      have pre30 : Go p e bl T20 (mkF m 144 #[iv p1, iv p2, iv p3, iv p4, iv p5, iv p6, iv (0 : Int32), iv f1, iv ca, iv cb, iv cc, iv cd, rv sB, iv (0 : Int32), .unset] [(.int (0 : Int32)), (.int (0 : Int32))]) s1 EF := fun t k => pre29 t (by
       refine XS.iconst X20.here hx rfl (B at_141) ?_
       exact XS.iload X20.here hx rfl (B at_142) rfl k)
      have pre31 : Go p e bl T20 (mkF m 158 #[iv p1, iv p2, iv p3, iv p4, iv p5, iv p6, iv (0 : Int32), iv f1, iv ca, iv cb, iv cc, iv cd, rv sB, iv (0 : Int32), .unset] []) s1 EF := fun t k => pre30 t (XS.icmpYes X20.here hx rfl (pc0 := 144) (pc' := 158) rfl (B at_144) rfl (flt (by decide : ¬ ((0 : Int32) < (0 : Int32)))).2.1 (by decide) (by decide) k)
      exact ⟨_, _, X20, N20, e20, pre31⟩
    obtain ⟨T32, LJ32, ex1, X32, N32, e32, hj32_0, pre32⟩ : ∃ (TJ : State) (LJ : List Loc) (ex1 : Int32), Stand p l e room_1 (s.setVm T4.vm) m #[(.int p1), (.int p2), (.int p3), (.int p4), (.int p5), (.int p6)] bl meth c TJ LJ 6 12 ∧ Fr n0 LJ ∧ TJ.heap = T4.heap ∧ (ex1 = if f1 < (0 : Int32) then (0 : Int32) else f1) ∧ Go p e bl TJ (mkF m 174 #[iv p1, iv p2, iv p3, iv p4, iv p5, iv p6, iv (0 : Int32), iv f1, iv ca, iv cb, iv cc, iv cd, rv sB, iv (0 : Int32), iv ex1] []) s1 EF := by
      have pre33 : Go p e bl T26 (mkF m 162 #[iv p1, iv p2, iv p3, iv p4, iv p5, iv p6, iv (0 : Int32), iv f1, iv ca, iv cb, iv cc, iv cd, rv sB, iv (0 : Int32), .unset] [(.int (0 : Int32)), (.int f1)]) s1 EF := fun t k => pre26 t (by
       refine XS.iload X26.here hx rfl (B at_158) rfl ?_
       exact XS.iload X26.here hx rfl (B at_160) rfl k)
      by_cases hc162 : f1 < (0 : Int32)
      · have pre34 : Go p e bl T26 (mkF m 170 #[iv p1, iv p2, iv p3, iv p4, iv p5, iv p6, iv (0 : Int32), iv f1, iv ca, iv cb, iv cc, iv cd, rv sB, iv (0 : Int32), .unset] []) s1 EF := fun t k => pre33 t (XS.icmpYes X26.here hx rfl (pc0 := 162) (pc' := 170) rfl (B at_162) rfl (tlt hc162).1 (by decide) (by decide) k)
        have pre35 : Go p e bl T26 (mkF m 174 #[iv p1, iv p2, iv p3, iv p4, iv p5, iv p6, iv (0 : Int32), iv f1, iv ca, iv cb, iv cc, iv cd, rv sB, iv (0 : Int32), iv (0 : Int32)] []) s1 EF := fun t k => pre34 t (by
         refine XS.iload X26.here hx rfl (B at_170) rfl ?_
         exact XS.istore X26.here hx rfl (B at_172) rfl (l' := #[iv p1, iv p2, iv p3, iv p4, iv p5, iv p6, iv (0 : Int32), iv f1, iv ca, iv cb, iv cc, iv cd, rv sB, iv (0 : Int32), iv (0 : Int32)]) rfl k)
        exact ⟨_, _, (0 : Int32), X26, N26, e26, (by rw [if_pos hc162]), pre35⟩
      have pre36 : Go p e bl T26 (mkF m 165 #[iv p1, iv p2, iv p3, iv p4, iv p5, iv p6, iv (0 : Int32), iv f1, iv ca, iv cb, iv cc, iv cd, rv sB, iv (0 : Int32), .unset] []) s1 EF := fun t k => pre33 t (XS.icmpNo X26.here hx rfl (B at_162) rfl (flt hc162).1 k)
      have pre37 : Go p e bl T26 (mkF m 174 #[iv p1, iv p2, iv p3, iv p4, iv p5, iv p6, iv (0 : Int32), iv f1, iv ca, iv cb, iv cc, iv cd, rv sB, iv (0 : Int32), iv f1] []) s1 EF := fun t k => pre36 t (by
       refine XS.iload X26.here hx rfl (B at_165) rfl ?_
       refine XS.goto X26.here hx rfl (pc0 := 167) (pc' := 172) rfl (B at_167) (by decide) (by decide) ?_
       exact XS.istore X26.here hx rfl (B at_172) rfl (l' := #[iv p1, iv p2, iv p3, iv p4, iv p5, iv p6, iv (0 : Int32), iv f1, iv ca, iv cb, iv cc, iv cd, rv sB, iv (0 : Int32), iv f1]) rfl k)
      exact ⟨_, _, f1, X26, N26, e26, (by rw [if_neg hc162]), pre37⟩
    have pre38 : Go p e bl T32 (mkF m 178 #[iv p1, iv p2, iv p3, iv p4, iv p5, iv p6, iv (0 : Int32), iv f1, iv ca, iv cb, iv cc, iv cd, rv sB, iv (0 : Int32), iv ex1] [(.int f1), (.ref sB)]) s1 EF := fun t k => pre32 t (by
     refine XS.aload X32.here hx rfl (B at_174) rfl rfl ?_
     exact XS.iload X32.here hx rfl (B at_176) rfl k)
    obtain ⟨_, _, ⟨T39, L39, k39, n39⟩, -, X39, ⟨Lc39, hQ39, l39, y39, z39⟩, st39⟩ := Jvm.LawKit.callS X32 hx (y := mN23) hown4 (mvT hZ4 (hw _ (mW 28 rfl))) (mvT hZ4 (hw _ (mW 29 rfl))) (mvT hZ4 (hw _ (mW 30 rfl))) (mvT hZ4 (hw _ (mW 31 rfl))) (by decide) (backOf (W := 0) (rmK0 l Z a0 hw [] sB f1 cz fv ta cl ex1 T4.heap n0 Z6 O6 J0 S0 TB HT SF4 hf1 (by rw [hj32_0])) hZ4 (hw _ (mW 31 rfl)) (hw _ (mW 30 rfl)) (by decide) (by decide)) (g := (mkF m 178 #[iv p1, iv p2, iv p3, iv p4, iv p5, iv p6, iv (0 : Int32), iv f1, iv ca, iv cb, iv cc, iv cd, rv sB, iv (0 : Int32), iv ex1] [(.int f1), (.ref sB)])) rfl (hM rfl) (argsL := [(.ref sB), (.int f1)]) (rest := []) (lenOf pd19 rfl) rfl (Nat.le_of_eq rfl) (B at_178) (fun _ _ => ⟨rfl, e32, wl rfl, wl rfl⟩)
    dsimp only [Pt.U, Pt.locs, Pt.cells, Pt.slots] at X39 l39 y39 z39 st39 hQ39
    subst l39 y39 z39
    obtain ⟨rfl, N39q, hq39⟩ := hQ39
    have N39 := Fr.app N32 N39q
    have pre40 : Go p e bl T39 (mkF m 181 #[iv p1, iv p2, iv p3, iv p4, iv p5, iv p6, iv (0 : Int32), iv f1, iv ca, iv cb, iv cc, iv cd, rv sB, iv (0 : Int32), iv ex1] [(.int ex1)]) s1 EF := fun t k => pre38 t (st39 t k)
    have e39 : T39.heap = T4.heap := hq39
    have pre41 : Go p e bl T39 (mkF m 183 #[iv p1, iv p2, iv p3, iv p4, iv p5, iv p6, iv (0 : Int32), iv f1, iv ca, iv cb, iv cc, iv cd, rv sB, iv (0 : Int32), iv ex1] [(.int ex1), (.int ex1)]) s1 EF := fun t k => pre40 t (by
     exact XS.iload X39.here hx rfl (B at_181) rfl k)
    have pre42 : Go p e bl T39 (mkF m 186 #[iv p1, iv p2, iv p3, iv p4, iv p5, iv p6, iv (0 : Int32), iv f1, iv ca, iv cb, iv cc, iv cd, rv sB, iv (0 : Int32), iv ex1] []) s1 EF := fun t k => pre41 t (XS.icmpNo X39.here hx rfl (B at_183) rfl (teq (rfl : ex1 = ex1)).2 k)
    have pre43 : Go p e bl T39 (mkF m 191 #[iv p1, iv p2, iv p3, iv p4, iv p5, iv p6, iv (0 : Int32), iv f1, iv ca, iv cb, iv cc, iv cd, rv sB, iv (0 : Int32), iv ex1] [(.int (1 : Int32))]) s1 EF := fun t k => pre42 t (by
     refine XS.iconst X39.here hx rfl (B at_186) ?_
     exact XS.goto X39.here hx rfl (pc0 := 187) (pc' := 191) rfl (B at_187) (by decide) (by decide) k)
    have hnr : Value.int (nar .boolean (1 : Int32)) = (.int (1 : Int32)) := by rfl
    obtain ⟨fs, hr, hrun, hended, hend1, hend2, hend3, hsame⟩ := X39.leaveW hS4 (by rw [e39]; exact hk4) (v := some (.int (1 : Int32))) (fun h => by rw [Bd.returns] at h; cases h)
    have hCH : CHr Z [("java/lang/String", 7)] s.vm s.heap T39.vm T39.heap := by rw [hh, e39]; exact R4.trans (CHv.at X39 hZ4 (own_EW hw) hCH4.1)
    refine ⟨_, _, hEF ▸ pre43 _ (retN X39 hx (t := .boolean) Bd.returns (by simp) (B at_191) (hnr ▸ hr)), hrun, hended, _, _, rfl, ?_, hCH, hend1, hend2, hend3, hsame.mono (by decide) (by decide)⟩
    show QL Z p1 p2 p3 p4 p5 p6 cz fv ta cl h0 n0 _ T39.heap _
    rw [e39]
    exact ⟨rfl, N39⟩
  · subst hv2_1
    have pre44 : Go p e bl s1 (mkF m 57 #[iv p1, iv p2, iv p3, iv p4, iv p5, iv p6, iv (1 : Int32), iv f1, iv ca, iv cb, iv cc, iv cd, .unset, .unset, .unset] [(.int cd), (.int cc), (.int cb), (.int ca), (.int (1 : Int32))]) s1 EF := fun t k => pre1 t (by
     refine XS.iload X0.here hx rfl (B at_47) rfl ?_
     refine XS.iload X0.here hx rfl (B at_49) rfl ?_
     refine XS.iload X0.here hx rfl (B at_51) rfl ?_
     refine XS.iload X0.here hx rfl (B at_53) rfl ?_
     exact XS.iload X0.here hx rfl (B at_55) rfl k)
    obtain ⟨_, _, ⟨T45, L45, k45, n45⟩, -, X45, ⟨Lc45, hQ45, l45, y45, z45⟩, st45⟩ := Jvm.LawKit.callS X0 hx (y := mN22) hown0 (mvT hZ0 (hw _ (mW 2 rfl))) (mvT hZ0 (hw _ (mW 3 rfl))) (mvT hZ0 (hw _ (mW 4 rfl))) (mvT hZ0 (hw _ (mW 5 rfl))) (by decide) (backOf (W := 0) (rmB1 l Z a0 hw [] ca cb cc cd cz fv  h0 n0 Z0 O0 J0 rca rcb rcc rcd) hZ0 (hw _ (mW 5 rfl)) (hw _ (mW 4 rfl)) (by decide) (by decide)) (g := (mkF m 57 #[iv p1, iv p2, iv p3, iv p4, iv p5, iv p6, iv (1 : Int32), iv f1, iv ca, iv cb, iv cc, iv cd, .unset, .unset, .unset] [(.int cd), (.int cc), (.int cb), (.int ca), (.int (1 : Int32))])) rfl (hM rfl) (argsL := [(.int (1 : Int32)), (.int ca), (.int cb), (.int cc), (.int cd)]) (rest := []) (lenOf pd18 rfl) rfl (Nat.le_of_eq rfl) (B at_57) (fun _ _ => ⟨rfl, e0, wl rfl, wl rfl⟩)
    dsimp only [Pt.U, Pt.locs, Pt.cells, Pt.slots] at X45 l45 y45 z45 st45 hQ45
    subst l45 y45 z45
    obtain ⟨sB, rfl, N45q, K45, SF45⟩ := hQ45
    have N45 := Fr.app N0 N45q
    have pre46 : Go p e bl T45 (mkF m 60 #[iv p1, iv p2, iv p3, iv p4, iv p5, iv p6, iv (1 : Int32), iv f1, iv ca, iv cb, iv cc, iv cd, .unset, .unset, .unset] [(.ref sB)]) s1 EF := fun t k => pre44 t (st45 t k)
    have O47 : Old Z n0 T45.heap := O0.keep K45 all0
    have Z47 : n0 ≤ T45.heap.size := Nat.le_trans Z0 K45.1
    have hk47 := Nat.le_trans hk0 K45.1
    have C47 := CHv.keep K45 sf0 hC
    have R47 := (CHr.refl hC).trans (CHr.keep K45 sf0 hC)
    have pre48 : Go p e bl T45 (mkF m 66 #[iv p1, iv p2, iv p3, iv p4, iv p5, iv p6, iv (1 : Int32), iv f1, iv ca, iv cb, iv cc, iv cd, rv sB, iv (1 : Int32), .unset] []) s1 EF := fun t k => pre46 t (by
     refine XS.astore X45.here hx rfl (B at_60) rfl rfl (l' := #[iv p1, iv p2, iv p3, iv p4, iv p5, iv p6, iv (1 : Int32), iv f1, iv ca, iv cb, iv cc, iv cd, rv sB, .unset, .unset]) rfl ?_
     refine XS.iload X45.here hx rfl (B at_62) rfl ?_
     exact XS.istore X45.here hx rfl (B at_64) rfl (l' := #[iv p1, iv p2, iv p3, iv p4, iv p5, iv p6, iv (1 : Int32), iv f1, iv ca, iv cb, iv cc, iv cd, rv sB, iv (1 : Int32), .unset]) rfl k)
    obtain ⟨T49, LJ49, X49, N49, e49, pre49⟩ : ∃ (TJ : State) (LJ : List Loc) , Stand p l e room_1 (s.setVm s.vm) m #[(.int p1), (.int p2), (.int p3), (.int p4), (.int p5), (.int p6)] bl meth c TJ LJ 4 8 ∧ Fr n0 LJ ∧ TJ.heap = T45.heap ∧ Go p e bl TJ (mkF m 89 #[iv p1, iv p2, iv p3, iv p4, iv p5, iv p6, iv (1 : Int32), iv f1, iv ca, iv cb, iv cc, iv cd, rv sB, iv (1 : Int32), .unset] []) s1 EF := by
      have pre50 : Go p e bl T45 (mkF m 69 #[iv p1, iv p2, iv p3, iv p4, iv p5, iv p6, iv (1 : Int32), iv f1, iv ca, iv cb, iv cc, iv cd, rv sB, iv (1 : Int32), .unset] [(.int f1), (.int (3 : Int32))]) s1 EF := fun t k => pre48 t (by
       refine XS.iconst X45.here hx rfl (B at_66) ?_
       exact XS.iload X45.here hx rfl (B at_67) rfl k)
      by_cases hc69 : (3 : Int32) < f1
      · have pre51 : Go p e bl T45 (mkF m 89 #[iv p1, iv p2, iv p3, iv p4, iv p5, iv p6, iv (1 : Int32), iv f1, iv ca, iv cb, iv cc, iv cd, rv sB, iv (1 : Int32), .unset] []) s1 EF := fun t k => pre50 t (XS.icmpYes X45.here hx rfl (pc0 := 69) (pc' := 89) rfl (B at_69) rfl (tlt hc69).1 (by decide) (by decide) k)
        exact ⟨_, _, X45, N45, rfl, pre51⟩
      have pre52 : Go p e bl T45 (mkF m 72 #[iv p1, iv p2, iv p3, iv p4, iv p5, iv p6, iv (1 : Int32), iv f1, iv ca, iv cb, iv cc, iv cd, rv sB, iv (1 : Int32), .unset] []) s1 EF := fun t k => pre50 t (XS.icmpNo X45.here hx rfl (B at_69) rfl (flt hc69).1 k)
      have pre53 : Go p e bl T45 (mkF m 75 #[iv p1, iv p2, iv p3, iv p4, iv p5, iv p6, iv (1 : Int32), iv f1, iv ca, iv cb, iv cc, iv cd, rv sB, iv (1 : Int32), .unset] [(.int (1 : Int32)), (.int (3 : Int32))]) s1 EF := fun t k => pre52 t (by
       refine XS.iconst X45.here hx rfl (B at_72) ?_
       exact XS.iload X45.here hx rfl (B at_73) rfl k)
      have pre54 : Go p e bl T45 (mkF m 89 #[iv p1, iv p2, iv p3, iv p4, iv p5, iv p6, iv (1 : Int32), iv f1, iv ca, iv cb, iv cc, iv cd, rv sB, iv (1 : Int32), .unset] []) s1 EF := fun t k => pre53 t (XS.icmpYes X45.here hx rfl (pc0 := 75) (pc' := 89) rfl (B at_75) rfl (flt (by decide : ¬ ((3 : Int32) < (1 : Int32)))).2.1 (by decide) (by decide) k)
      exact ⟨_, _, X45, N45, rfl, pre54⟩
    obtain ⟨T55, LJ55, X55, N55, e55, pre55⟩ : ∃ (TJ : State) (LJ : List Loc) , Stand p l e room_1 (s.setVm s.vm) m #[(.int p1), (.int p2), (.int p3), (.int p4), (.int p5), (.int p6)] bl meth c TJ LJ 4 8 ∧ Fr n0 LJ ∧ TJ.heap = T45.heap ∧ Go p e bl TJ (mkF m 112 #[iv p1, iv p2, iv p3, iv p4, iv p5, iv p6, iv (1 : Int32), iv f1, iv ca, iv cb, iv cc, iv cd, rv sB, iv (1 : Int32), .unset] []) s1 EF := by
      have pre56 : Go p e bl T49 (mkF m 92 #[iv p1, iv p2, iv p3, iv p4, iv p5, iv p6, iv (1 : Int32), iv f1, iv ca, iv cb, iv cc, iv cd, rv sB, iv (1 : Int32), .unset] [(.int f1), (.int (2 : Int32))]) s1 EF := fun t k => pre49 t (by
       refine XS.iconst X49.here hx rfl (B at_89) ?_
       exact XS.iload X49.here hx rfl (B at_90) rfl k)
      by_cases hc92 : (2 : Int32) < f1
      · have pre57 : Go p e bl T49 (mkF m 112 #[iv p1, iv p2, iv p3, iv p4, iv p5, iv p6, iv (1 : Int32), iv f1, iv ca, iv cb, iv cc, iv cd, rv sB, iv (1 : Int32), .unset] []) s1 EF := fun t k => pre56 t (XS.icmpYes X49.here hx rfl (pc0 := 92) (pc' := 112) rfl (B at_92) rfl (tlt hc92).1 (by decide) (by decide) k)
        exact ⟨_, _, X49, N49, e49, pre57⟩
      have pre58 : Go p e bl T49 (mkF m 95 #[iv p1, iv p2, iv p3, iv p4, iv p5, iv p6, iv (1 : Int32), iv f1, iv ca, iv cb, iv cc, iv cd, rv sB, iv (1 : Int32), .unset] []) s1 EF := fun t k => pre56 t (XS.icmpNo X49.here hx rfl (B at_92) rfl (flt hc92).1 k)
      have pre59 : Go p e bl T49 (mkF m 98 #[iv p1, iv p2, iv p3, iv p4, iv p5, iv p6, iv (1 : Int32), iv f1, iv ca, iv cb, iv cc, iv cd, rv sB, iv (1 : Int32), .unset] [(.int (1 : Int32)), (.int (2 : Int32))]) s1 EF := fun t k => pre58 t (by
       refine XS.iconst X49.here hx rfl (B at_95) ?_
       exact XS.iload X49.here hx rfl (B at_96) rfl k)
      have pre60 : Go p e bl T49 (mkF m 112 #[iv p1, iv p2, iv p3, iv p4, iv p5, iv p6, iv (1 : Int32), iv f1, iv ca, iv cb, iv cc, iv cd, rv sB, iv (1 : Int32), .unset] []) s1 EF := fun t k => pre59 t (XS.icmpYes X49.here hx rfl (pc0 := 98) (pc' := 112) rfl (B at_98) rfl (flt (by decide : ¬ ((2 : Int32) < (1 : Int32)))).2.1 (by decide) (by decide) k)
      exact ⟨_, _, X49, N49, e49, pre60⟩
    obtain ⟨T61, LJ61, X61, N61, e61, pre61⟩ : ∃ (TJ : State) (LJ : List Loc) , Stand p l e room_1 (s.setVm s.vm) m #[(.int p1), (.int p2), (.int p3), (.int p4), (.int p5), (.int p6)] bl meth c TJ LJ 4 8 ∧ Fr n0 LJ ∧ TJ.heap = T45.heap ∧ Go p e bl TJ (mkF m 135 #[iv p1, iv p2, iv p3, iv p4, iv p5, iv p6, iv (1 : Int32), iv f1, iv ca, iv cb, iv cc, iv cd, rv sB, iv (1 : Int32), .unset] []) s1 EF := by
      have pre62 : Go p e bl T55 (mkF m 115 #[iv p1, iv p2, iv p3, iv p4, iv p5, iv p6, iv (1 : Int32), iv f1, iv ca, iv cb, iv cc, iv cd, rv sB, iv (1 : Int32), .unset] [(.int f1), (.int (1 : Int32))]) s1 EF := fun t k => pre55 t (by
       refine XS.iconst X55.here hx rfl (B at_112) ?_
       exact XS.iload X55.here hx rfl (B at_113) rfl k)
      by_cases hc115 : (1 : Int32) < f1
      · have pre63 : Go p e bl T55 (mkF m 135 #[iv p1, iv p2, iv p3, iv p4, iv p5, iv p6, iv (1 : Int32), iv f1, iv ca, iv cb, iv cc, iv cd, rv sB, iv (1 : Int32), .unset] []) s1 EF := fun t k => pre62 t (XS.icmpYes X55.here hx rfl (pc0 := 115) (pc' := 135) rfl (B at_115) rfl (tlt hc115).1 (by decide) (by decide) k)
        exact ⟨_, _, X55, N55, e55, pre63⟩
      have pre64 : Go p e bl T55 (mkF m 118 #[iv p1, iv p2, iv p3, iv p4, iv p5, iv p6, iv (1 : Int32), iv f1, iv ca, iv cb, iv cc, iv cd, rv sB, iv (1 : Int32), .unset] []) s1 EF := fun t k => pre62 t (XS.icmpNo X55.here hx rfl (B at_115) rfl (flt hc115).1 k)
      have pre65 : Go p e bl T55 (mkF m 121 #[iv p1, iv p2, iv p3, iv p4, iv p5, iv p6, iv (1 : Int32), iv f1, iv ca, iv cb, iv cc, iv cd, rv sB, iv (1 : Int32), .unset] [(.int (1 : Int32)), (.int (1 : Int32))]) s1 EF := fun t k => pre64 t (by
       refine XS.iconst X55.here hx rfl (B at_118) ?_
       exact XS.iload X55.here hx rfl (B at_119) rfl k)
      have pre66 : Go p e bl T55 (mkF m 135 #[iv p1, iv p2, iv p3, iv p4, iv p5, iv p6, iv (1 : Int32), iv f1, iv ca, iv cb, iv cc, iv cd, rv sB, iv (1 : Int32), .unset] []) s1 EF := fun t k => pre65 t (XS.icmpYes X55.here hx rfl (pc0 := 121) (pc' := 135) rfl (B at_121) rfl (flt (by decide : ¬ ((1 : Int32) < (1 : Int32)))).2.1 (by decide) (by decide) k)
      exact ⟨_, _, X55, N55, e55, pre66⟩
    obtain ⟨T67, LJ67, r0, X67, N67, e67, hj67_0, pre67⟩ : ∃ (TJ : State) (LJ : List Loc) (r0 : Int32), Stand p l e room_1 (s.setVm s.vm) m #[(.int p1), (.int p2), (.int p3), (.int p4), (.int p5), (.int p6)] bl meth c TJ LJ 4 8 ∧ Fr n0 LJ ∧ TJ.heap = T45.heap ∧ (r0 = stepF 0 f1 ca (1 : Int32)) ∧ Go p e bl TJ (mkF m 158 #[iv p1, iv p2, iv p3, iv p4, iv p5, iv p6, iv (1 : Int32), iv f1, iv ca, iv cb, iv cc, iv cd, rv sB, iv r0, .unset] []) s1 EF := by
      have pre68 : Go p e bl T61 (mkF m 138 #[iv p1, iv p2, iv p3, iv p4, iv p5, iv p6, iv (1 : Int32), iv f1, iv ca, iv cb, iv cc, iv cd, rv sB, iv (1 : Int32), .unset] [(.int f1), (.int (0 : Int32))]) s1 EF := fun t k => pre61 t (by
       refine XS.iconst X61.here hx rfl (B at_135) ?_
       exact XS.iload X61.here hx rfl (B at_136) rfl k)
      by_cases hc138 : (0 : Int32) < f1
      · have pre69 : Go p e bl T61 (mkF m 158 #[iv p1, iv p2, iv p3, iv p4, iv p5, iv p6, iv (1 : Int32), iv f1, iv ca, iv cb, iv cc, iv cd, rv sB, iv (1 : Int32), .unset] []) s1 EF := fun t k => pre68 t (XS.icmpYes X61.here hx rfl (pc0 := 138) (pc' := 158) rfl (B at_138) rfl (tlt hc138).1 (by decide) (by decide) k)
        exact ⟨_, _, (1 : Int32), X61, N61, e61, (by unfold stepF; rw [if_pos hc138]), pre69⟩
      have pre70 : Go p e bl T61 (mkF m 141 #[iv p1, iv p2, iv p3, iv p4, iv p5, iv p6, iv (1 : Int32), iv f1, iv ca, iv cb, iv cc, iv cd, rv sB, iv (1 : Int32), .unset] []) s1 EF := fun t k => pre68 t (XS.icmpNo X61.here hx rfl (B at_138) rfl (flt hc138).1 k)
      have pre71 : Go p e bl T61 (mkF m 144 #[iv p1, iv p2, iv p3, iv p4, iv p5, iv p6, iv (1 : Int32), iv f1, iv ca, iv cb, iv cc, iv cd, rv sB, iv (1 : Int32), .unset] [(.int (1 : Int32)), (.int (0 : Int32))]) s1 EF := fun t k => pre70 t (by
       refine XS.iconst X61.here hx rfl (B at_141) ?_
       exact XS.iload X61.here hx rfl (B at_142) rfl k)
      have pre72 : Go p e bl T61 (mkF m 147 #[iv p1, iv p2, iv p3, iv p4, iv p5, iv p6, iv (1 : Int32), iv f1, iv ca, iv cb, iv cc, iv cd, rv sB, iv (1 : Int32), .unset] []) s1 EF := fun t k => pre71 t (XS.icmpNo X61.here hx rfl (B at_144) rfl (tlt (by decide : (0 : Int32) < (1 : Int32))).2.1 k)
      have pre73 : Go p e bl T61 (mkF m 149 #[iv p1, iv p2, iv p3, iv p4, iv p5, iv p6, iv (1 : Int32), iv f1, iv ca, iv cb, iv cc, iv cd, rv sB, iv (1 : Int32), .unset] [(.int ca)]) s1 EF := fun t k => pre72 t (by
       exact XS.iload X61.here hx rfl (B at_147) rfl k)
      obtain ⟨_, _, ⟨T74, L74, k74, n74⟩, -, X74, ⟨Lc74, hQ74, l74, y74, z74⟩, st74⟩ := Jvm.LawKit.callS X61 hx (y := mN21) hown0 (mvT hZ0 (hw _ (mW 53 rfl))) (mvT hZ0 (hw _ (mW 54 rfl))) (mvT hZ0 (hw _ (mW 4 rfl))) (mvT hZ0 (hw _ (mW 55 rfl))) (by decide) (backOf (W := 0) (rmE l Z a0 hw [] ca (expF ca) T45.heap n0 Z47 rfl) hZ0 (hw _ (mW 55 rfl)) (hw _ (mW 4 rfl)) (by decide) (by decide)) (g := (mkF m 149 #[iv p1, iv p2, iv p3, iv p4, iv p5, iv p6, iv (1 : Int32), iv f1, iv ca, iv cb, iv cc, iv cd, rv sB, iv (1 : Int32), .unset] [(.int ca)])) rfl (hM rfl) (argsL := [(.int ca)]) (rest := []) (lenOf pd20 rfl) rfl (Nat.le_of_eq rfl) (B at_149) (fun _ _ => ⟨rfl, e61, wl rfl, wl rfl⟩)
      dsimp only [Pt.U, Pt.locs, Pt.cells, Pt.slots] at X74 l74 y74 z74 st74 hQ74
      subst l74 y74 z74
      obtain ⟨rfl, N74q, hq74⟩ := hQ74
      have N74 := Fr.app N61 N74q
      have pre75 : Go p e bl T74 (mkF m 152 #[iv p1, iv p2, iv p3, iv p4, iv p5, iv p6, iv (1 : Int32), iv f1, iv ca, iv cb, iv cc, iv cd, rv sB, iv (1 : Int32), .unset] [(.int (expF ca))]) s1 EF := fun t k => pre73 t (st74 t k)
      have e74 : T74.heap = T45.heap := hq74
      by_cases hc152 : (expF ca) = (0 : Int32)
      · have pre76 : Go p e bl T74 (mkF m 155 #[iv p1, iv p2, iv p3, iv p4, iv p5, iv p6, iv (1 : Int32), iv f1, iv ca, iv cb, iv cc, iv cd, rv sB, iv (1 : Int32), .unset] []) s1 EF := fun t k => pre75 t (XS.ifNo X74.here hx rfl (B at_152) rfl ((if0 _ _).trans (teq hc152).2) k)
        have pre77 : Go p e bl T74 (mkF m 158 #[iv p1, iv p2, iv p3, iv p4, iv p5, iv p6, iv (1 : Int32), iv f1, iv ca, iv cb, iv cc, iv cd, rv sB, iv (0 : Int32), .unset] []) s1 EF := fun t k => pre76 t (by
         refine XS.iconst X74.here hx rfl (B at_155) ?_
         exact XS.istore X74.here hx rfl (B at_156) rfl (l' := #[iv p1, iv p2, iv p3, iv p4, iv p5, iv p6, iv (1 : Int32), iv f1, iv ca, iv cb, iv cc, iv cd, rv sB, iv (0 : Int32), .unset]) rfl k)
        exact ⟨_, _, (0 : Int32), X74, N74, e74, (by unfold stepF; rw [if_neg hc138, if_pos hc152]), pre77⟩
      have pre78 : Go p e bl T74 (mkF m 158 #[iv p1, iv p2, iv p3, iv p4, iv p5, iv p6, iv (1 : Int32), iv f1, iv ca, iv cb, iv cc, iv cd, rv sB, iv (1 : Int32), .unset] []) s1 EF := fun t k => pre75 t (XS.ifYes X74.here hx rfl (pc0 := 152) (pc' := 158) rfl (B at_152) rfl ((if0 _ _).trans (feq hc152).2) (by decide) (by decide) k)
      exact ⟨_, _, (1 : Int32), X74, N74, e74, (by unfold stepF; rw [if_neg hc138, if_neg hc152]), pre78⟩
    obtain ⟨T79, LJ79, ex1, X79, N79, e79, hj79_0, pre79⟩ : ∃ (TJ : State) (LJ : List Loc) (ex1 : Int32), Stand p l e room_1 (s.setVm s.vm) m #[(.int p1), (.int p2), (.int p3), (.int p4), (.int p5), (.int p6)] bl meth c TJ LJ 4 8 ∧ Fr n0 LJ ∧ TJ.heap = T45.heap ∧ (ex1 = if f1 < (1 : Int32) then r0 else f1) ∧ Go p e bl TJ (mkF m 174 #[iv p1, iv p2, iv p3, iv p4, iv p5, iv p6, iv (1 : Int32), iv f1, iv ca, iv cb, iv cc, iv cd, rv sB, iv r0, iv ex1] []) s1 EF := by
      have pre80 : Go p e bl T67 (mkF m 162 #[iv p1, iv p2, iv p3, iv p4, iv p5, iv p6, iv (1 : Int32), iv f1, iv ca, iv cb, iv cc, iv cd, rv sB, iv r0, .unset] [(.int (1 : Int32)), (.int f1)]) s1 EF := fun t k => pre67 t (by
       refine XS.iload X67.here hx rfl (B at_158) rfl ?_
       exact XS.iload X67.here hx rfl (B at_160) rfl k)
      by_cases hc162 : f1 < (1 : Int32)
      · have pre81 : Go p e bl T67 (mkF m 170 #[iv p1, iv p2, iv p3, iv p4, iv p5, iv p6, iv (1 : Int32), iv f1, iv ca, iv cb, iv cc, iv cd, rv sB, iv r0, .unset] []) s1 EF := fun t k => pre80 t (XS.icmpYes X67.here hx rfl (pc0 := 162) (pc' := 170) rfl (B at_162) rfl (tlt hc162).1 (by decide) (by decide) k)
        have pre82 : Go p e bl T67 (mkF m 174 #[iv p1, iv p2, iv p3, iv p4, iv p5, iv p6, iv (1 : Int32), iv f1, iv ca, iv cb, iv cc, iv cd, rv sB, iv r0, iv r0] []) s1 EF := fun t k => pre81 t (by
         refine XS.iload X67.here hx rfl (B at_170) rfl ?_
         exact XS.istore X67.here hx rfl (B at_172) rfl (l' := #[iv p1, iv p2, iv p3, iv p4, iv p5, iv p6, iv (1 : Int32), iv f1, iv ca, iv cb, iv cc, iv cd, rv sB, iv r0, iv r0]) rfl k)
        exact ⟨_, _, r0, X67, N67, e67, (by rw [if_pos hc162]), pre82⟩
      have pre83 : Go p e bl T67 (mkF m 165 #[iv p1, iv p2, iv p3, iv p4, iv p5, iv p6, iv (1 : Int32), iv f1, iv ca, iv cb, iv cc, iv cd, rv sB, iv r0, .unset] []) s1 EF := fun t k => pre80 t (XS.icmpNo X67.here hx rfl (B at_162) rfl (flt hc162).1 k)
      have pre84 : Go p e bl T67 (mkF m 174 #[iv p1, iv p2, iv p3, iv p4, iv p5, iv p6, iv (1 : Int32), iv f1, iv ca, iv cb, iv cc, iv cd, rv sB, iv r0, iv f1] []) s1 EF := fun t k => pre83 t (by
       refine XS.iload X67.here hx rfl (B at_165) rfl ?_
       refine XS.goto X67.here hx rfl (pc0 := 167) (pc' := 172) rfl (B at_167) (by decide) (by decide) ?_
       exact XS.istore X67.here hx rfl (B at_172) rfl (l' := #[iv p1, iv p2, iv p3, iv p4, iv p5, iv p6, iv (1 : Int32), iv f1, iv ca, iv cb, iv cc, iv cd, rv sB, iv r0, iv f1]) rfl k)
      exact ⟨_, _, f1, X67, N67, e67, (by rw [if_neg hc162]), pre84⟩
    have pre85 : Go p e bl T79 (mkF m 178 #[iv p1, iv p2, iv p3, iv p4, iv p5, iv p6, iv (1 : Int32), iv f1, iv ca, iv cb, iv cc, iv cd, rv sB, iv r0, iv ex1] [(.int f1), (.ref sB)]) s1 EF := fun t k => pre79 t (by
     refine XS.aload X79.here hx rfl (B at_174) rfl rfl ?_
     exact XS.iload X79.here hx rfl (B at_176) rfl k)
    obtain ⟨_, _, ⟨T86, L86, k86, n86⟩, -, X86, ⟨Lc86, hQ86, l86, y86, z86⟩, st86⟩ := Jvm.LawKit.callS X79 hx (y := mN23) hown0 (mvT hZ0 (hw _ (mW 28 rfl))) (mvT hZ0 (hw _ (mW 29 rfl))) (mvT hZ0 (hw _ (mW 30 rfl))) (mvT hZ0 (hw _ (mW 31 rfl))) (by decide) (backOf (W := 0) (rmK1 l Z a0 hw [] sB f1 cz fv ta cl ca ex1 T45.heap n0 Z47 O47 J0 S0 TB HT SF45 hf1 (by rw [hj79_0, hj67_0])) hZ0 (hw _ (mW 31 rfl)) (hw _ (mW 30 rfl)) (by decide) (by decide)) (g := (mkF m 178 #[iv p1, iv p2, iv p3, iv p4, iv p5, iv p6, iv (1 : Int32), iv f1, iv ca, iv cb, iv cc, iv cd, rv sB, iv r0, iv ex1] [(.int f1), (.ref sB)])) rfl (hM rfl) (argsL := [(.ref sB), (.int f1)]) (rest := []) (lenOf pd19 rfl) rfl (Nat.le_of_eq rfl) (B at_178) (fun _ _ => ⟨rfl, e79, wl rfl, wl rfl⟩)
    dsimp only [Pt.U, Pt.locs, Pt.cells, Pt.slots] at X86 l86 y86 z86 st86 hQ86
    subst l86 y86 z86
    obtain ⟨rfl, N86q, hq86⟩ := hQ86
    have N86 := Fr.app N79 N86q
    have pre87 : Go p e bl T86 (mkF m 181 #[iv p1, iv p2, iv p3, iv p4, iv p5, iv p6, iv (1 : Int32), iv f1, iv ca, iv cb, iv cc, iv cd, rv sB, iv r0, iv ex1] [(.int ex1)]) s1 EF := fun t k => pre85 t (st86 t k)
    have e86 : T86.heap = T45.heap := hq86
    have pre88 : Go p e bl T86 (mkF m 183 #[iv p1, iv p2, iv p3, iv p4, iv p5, iv p6, iv (1 : Int32), iv f1, iv ca, iv cb, iv cc, iv cd, rv sB, iv r0, iv ex1] [(.int ex1), (.int ex1)]) s1 EF := fun t k => pre87 t (by
     exact XS.iload X86.here hx rfl (B at_181) rfl k)
    have pre89 : Go p e bl T86 (mkF m 186 #[iv p1, iv p2, iv p3, iv p4, iv p5, iv p6, iv (1 : Int32), iv f1, iv ca, iv cb, iv cc, iv cd, rv sB, iv r0, iv ex1] []) s1 EF := fun t k => pre88 t (XS.icmpNo X86.here hx rfl (B at_183) rfl (teq (rfl : ex1 = ex1)).2 k)
    have pre90 : Go p e bl T86 (mkF m 191 #[iv p1, iv p2, iv p3, iv p4, iv p5, iv p6, iv (1 : Int32), iv f1, iv ca, iv cb, iv cc, iv cd, rv sB, iv r0, iv ex1] [(.int (1 : Int32))]) s1 EF := fun t k => pre89 t (by
     refine XS.iconst X86.here hx rfl (B at_186) ?_
     exact XS.goto X86.here hx rfl (pc0 := 187) (pc' := 191) rfl (B at_187) (by decide) (by decide) k)
    have hnr : Value.int (nar .boolean (1 : Int32)) = (.int (1 : Int32)) := by rfl
    obtain ⟨fs, hr, hrun, hended, hend1, hend2, hend3, hsame⟩ := X86.leaveW hS0 (by rw [e86]; exact hk47) (v := some (.int (1 : Int32))) (fun h => by rw [Bd.returns] at h; cases h)
    have hCH : CHr Z [("java/lang/String", 7)] s.vm s.heap T86.vm T86.heap := by rw [hh, e86]; exact R47.trans (CHv.at X86 hZ0 (own_EW hw) C47)
    refine ⟨_, _, hEF ▸ pre90 _ (retN X86 hx (t := .boolean) Bd.returns (by simp) (B at_191) (hnr ▸ hr)), hrun, hended, _, _, rfl, ?_, hCH, hend1, hend2, hend3, hsame.mono (by decide) (by decide)⟩
    show QL Z p1 p2 p3 p4 p5 p6 cz fv ta cl h0 n0 _ T86.heap _
    rw [e86]
    exact ⟨rfl, N86⟩
  · subst hv2_2
    have pre91 : Go p e bl s1 (mkF m 57 #[iv p1, iv p2, iv p3, iv p4, iv p5, iv p6, iv (2 : Int32), iv f1, iv ca, iv cb, iv cc, iv cd, .unset, .unset, .unset] [(.int cd), (.int cc), (.int cb), (.int ca), (.int (2 : Int32))]) s1 EF := fun t k => pre1 t (by
     refine XS.iload X0.here hx rfl (B at_47) rfl ?_
     refine XS.iload X0.here hx rfl (B at_49) rfl ?_
     refine XS.iload X0.here hx rfl (B at_51) rfl ?_
     refine XS.iload X0.here hx rfl (B at_53) rfl ?_
     exact XS.iload X0.here hx rfl (B at_55) rfl k)
    obtain ⟨_, _, ⟨T92, L92, k92, n92⟩, -, X92, ⟨Lc92, hQ92, l92, y92, z92⟩, st92⟩ := Jvm.LawKit.callS X0 hx (y := mN22) hown0 (mvT hZ0 (hw _ (mW 2 rfl))) (mvT hZ0 (hw _ (mW 3 rfl))) (mvT hZ0 (hw _ (mW 4 rfl))) (mvT hZ0 (hw _ (mW 5 rfl))) (by decide) (backOf (W := 0) (rmB2 l Z a0 hw [] ca cb cc cd cz fv  h0 n0 Z0 O0 J0 rca rcb rcc rcd) hZ0 (hw _ (mW 5 rfl)) (hw _ (mW 4 rfl)) (by decide) (by decide)) (g := (mkF m 57 #[iv p1, iv p2, iv p3, iv p4, iv p5, iv p6, iv (2 : Int32), iv f1, iv ca, iv cb, iv cc, iv cd, .unset, .unset, .unset] [(.int cd), (.int cc), (.int cb), (.int ca), (.int (2 : Int32))])) rfl (hM rfl) (argsL := [(.int (2 : Int32)), (.int ca), (.int cb), (.int cc), (.int cd)]) (rest := []) (lenOf pd18 rfl) rfl (Nat.le_of_eq rfl) (B at_57) (fun _ _ => ⟨rfl, e0, wl rfl, wl rfl⟩)
    dsimp only [Pt.U, Pt.locs, Pt.cells, Pt.slots] at X92 l92 y92 z92 st92 hQ92
    subst l92 y92 z92
    obtain ⟨sB, rfl, N92q, K92, SF92⟩ := hQ92
    have N92 := Fr.app N0 N92q
    have pre93 : Go p e bl T92 (mkF m 60 #[iv p1, iv p2, iv p3, iv p4, iv p5, iv p6, iv (2 : Int32), iv f1, iv ca, iv cb, iv cc, iv cd, .unset, .unset, .unset] [(.ref sB)]) s1 EF := fun t k => pre91 t (st92 t k)
    have O94 : Old Z n0 T92.heap := O0.keep K92 all0
    have Z94 : n0 ≤ T92.heap.size := Nat.le_trans Z0 K92.1
    have hk94 := Nat.le_trans hk0 K92.1
    have C94 := CHv.keep K92 sf0 hC
    have R94 := (CHr.refl hC).trans (CHr.keep K92 sf0 hC)
    have pre95 : Go p e bl T92 (mkF m 66 #[iv p1, iv p2, iv p3, iv p4, iv p5, iv p6, iv (2 : Int32), iv f1, iv ca, iv cb, iv cc, iv cd, rv sB, iv (2 : Int32), .unset] []) s1 EF := fun t k => pre93 t (by
     refine XS.astore X92.here hx rfl (B at_60) rfl rfl (l' := #[iv p1, iv p2, iv p3, iv p4, iv p5, iv p6, iv (2 : Int32), iv f1, iv ca, iv cb, iv cc, iv cd, rv sB, .unset, .unset]) rfl ?_
     refine XS.iload X92.here hx rfl (B at_62) rfl ?_
     exact XS.istore X92.here hx rfl (B at_64) rfl (l' := #[iv p1, iv p2, iv p3, iv p4, iv p5, iv p6, iv (2 : Int32), iv f1, iv ca, iv cb, iv cc, iv cd, rv sB, iv (2 : Int32), .unset]) rfl k)
    obtain ⟨T96, LJ96, X96, N96, e96, pre96⟩ : ∃ (TJ : State) (LJ : List Loc) , Stand p l e room_1 (s.setVm s.vm) m #[(.int p1), (.int p2), (.int p3), (.int p4), (.int p5), (.int p6)] bl meth c TJ LJ 4 12 ∧ Fr n0 LJ ∧ TJ.heap = T92.heap ∧ Go p e bl TJ (mkF m 89 #[iv p1, iv p2, iv p3, iv p4, iv p5, iv p6, iv (2 : Int32), iv f1, iv ca, iv cb, iv cc, iv cd, rv sB, iv (2 : Int32), .unset] []) s1 EF := by
      have pre97 : Go p e bl T92 (mkF m 69 #[iv p1, iv p2, iv p3, iv p4, iv p5, iv p6, iv (2 : Int32), iv f1, iv ca, iv cb, iv cc, iv cd, rv sB, iv (2 : Int32), .unset] [(.int f1), (.int (3 : Int32))]) s1 EF := fun t k => pre95 t (by
       refine XS.iconst X92.here hx rfl (B at_66) ?_
       exact XS.iload X92.here hx rfl (B at_67) rfl k)
      by_cases hc69 : (3 : Int32) < f1
      · have pre98 : Go p e bl T92 (mkF m 89 #[iv p1, iv p2, iv p3, iv p4, iv p5, iv p6, iv (2 : Int32), iv f1, iv ca, iv cb, iv cc, iv cd, rv sB, iv (2 : Int32), .unset] []) s1 EF := fun t k => pre97 t (XS.icmpYes X92.here hx rfl (pc0 := 69) (pc' := 89) rfl (B at_69) rfl (tlt hc69).1 (by decide) (by decide) k)
        exact ⟨_, _, X92, N92, rfl, pre98⟩
      have pre99 : Go p e bl T92 (mkF m 72 #[iv p1, iv p2, iv p3, iv p4, iv p5, iv p6, iv (2 : Int32), iv f1, iv ca, iv cb, iv cc, iv cd, rv sB, iv (2 : Int32), .unset] []) s1 EF := fun t k => pre97 t (XS.icmpNo X92.here hx rfl (B at_69) rfl (flt hc69).1 k)
      have pre100 : Go p e bl T92 (mkF m 75 #[iv p1, iv p2, iv p3, iv p4, iv p5, iv p6, iv (2 : Int32), iv f1, iv ca, iv cb, iv cc, iv cd, rv sB, iv (2 : Int32), .unset] [(.int (2 : Int32)), (.int (3 : Int32))]) s1 EF := fun t k => pre99 t (by
       refine XS.iconst X92.here hx rfl (B at_72) ?_
       exact XS.iload X92.here hx rfl (B at_73) rfl k)
      have pre101 : Go p e bl T92 (mkF m 89 #[iv p1, iv p2, iv p3, iv p4, iv p5, iv p6, iv (2 : Int32), iv f1, iv ca, iv cb, iv cc, iv cd, rv sB, iv (2 : Int32), .unset] []) s1 EF := fun t k => pre100 t (XS.icmpYes X92.here hx rfl (pc0 := 75) (pc' := 89) rfl (B at_75) rfl (flt (by decide : ¬ ((3 : Int32) < (2 : Int32)))).2.1 (by decide) (by decide) k)
      exact ⟨_, _, X92, N92, rfl, pre101⟩
    obtain ⟨T102, LJ102, X102, N102, e102, pre102⟩ : ∃ (TJ : State) (LJ : List Loc) , Stand p l e room_1 (s.setVm s.vm) m #[(.int p1), (.int p2), (.int p3), (.int p4), (.int p5), (.int p6)] bl meth c TJ LJ 4 12 ∧ Fr n0 LJ ∧ TJ.heap = T92.heap ∧ Go p e bl TJ (mkF m 112 #[iv p1, iv p2, iv p3, iv p4, iv p5, iv p6, iv (2 : Int32), iv f1, iv ca, iv cb, iv cc, iv cd, rv sB, iv (2 : Int32), .unset] []) s1 EF := by
      have pre103 : Go p e bl T96 (mkF m 92 #[iv p1, iv p2, iv p3, iv p4, iv p5, iv p6, iv (2 : Int32), iv f1, iv ca, iv cb, iv cc, iv cd, rv sB, iv (2 : Int32), .unset] [(.int f1), (.int (2 : Int32))]) s1 EF := fun t k => pre96 t (by
       refine XS.iconst X96.here hx rfl (B at_89) ?_
       exact XS.iload X96.here hx rfl (B at_90) rfl k)
      by_cases hc92 : (2 : Int32) < f1
      · have pre104 : Go p e bl T96 (mkF m 112 #[iv p1, iv p2, iv p3, iv p4, iv p5, iv p6, iv (2 : Int32), iv f1, iv ca, iv cb, iv cc, iv cd, rv sB, iv (2 : Int32), .unset] []) s1 EF := fun t k => pre103 t (XS.icmpYes X96.here hx rfl (pc0 := 92) (pc' := 112) rfl (B at_92) rfl (tlt hc92).1 (by decide) (by decide) k)
        exact ⟨_, _, X96, N96, e96, pre104⟩
      have pre105 : Go p e bl T96 (mkF m 95 #[iv p1, iv p2, iv p3, iv p4, iv p5, iv p6, iv (2 : Int32), iv f1, iv ca, iv cb, iv cc, iv cd, rv sB, iv (2 : Int32), .unset] []) s1 EF := fun t k => pre103 t (XS.icmpNo X96.here hx rfl (B at_92) rfl (flt hc92).1 k)
      have pre106 : Go p e bl T96 (mkF m 98 #[iv p1, iv p2, iv p3, iv p4, iv p5, iv p6, iv (2 : Int32), iv f1, iv ca, iv cb, iv cc, iv cd, rv sB, iv (2 : Int32), .unset] [(.int (2 : Int32)), (.int (2 : Int32))]) s1 EF := fun t k => pre105 t (by
       refine XS.iconst X96.here hx rfl (B at_95) ?_
       exact XS.iload X96.here hx rfl (B at_96) rfl k)
      have pre107 : Go p e bl T96 (mkF m 112 #[iv p1, iv p2, iv p3, iv p4, iv p5, iv p6, iv (2 : Int32), iv f1, iv ca, iv cb, iv cc, iv cd, rv sB, iv (2 : Int32), .unset] []) s1 EF := fun t k => pre106 t (XS.icmpYes X96.here hx rfl (pc0 := 98) (pc' := 112) rfl (B at_98) rfl (flt (by decide : ¬ ((2 : Int32) < (2 : Int32)))).2.1 (by decide) (by decide) k)
      exact ⟨_, _, X96, N96, e96, pre107⟩
    obtain ⟨T108, LJ108, r1, X108, N108, e108, hj108_0, pre108⟩ : ∃ (TJ : State) (LJ : List Loc) (r1 : Int32), Stand p l e room_1 (s.setVm s.vm) m #[(.int p1), (.int p2), (.int p3), (.int p4), (.int p5), (.int p6)] bl meth c TJ LJ 4 12 ∧ Fr n0 LJ ∧ TJ.heap = T92.heap ∧ (r1 = stepF 1 f1 cb (2 : Int32)) ∧ Go p e bl TJ (mkF m 135 #[iv p1, iv p2, iv p3, iv p4, iv p5, iv p6, iv (2 : Int32), iv f1, iv ca, iv cb, iv cc, iv cd, rv sB, iv r1, .unset] []) s1 EF := by
      have pre109 : Go p e bl T102 (mkF m 115 #[iv p1, iv p2, iv p3, iv p4, iv p5, iv p6, iv (2 : Int32), iv f1, iv ca, iv cb, iv cc, iv cd, rv sB, iv (2 : Int32), .unset] [(.int f1), (.int (1 : Int32))]) s1 EF := fun t k => pre102 t (by
       refine XS.iconst X102.here hx rfl (B at_112) ?_
       exact XS.iload X102.here hx rfl (B at_113) rfl k)
      by_cases hc115 : (1 : Int32) < f1
      · have pre110 : Go p e bl T102 (mkF m 135 #[iv p1, iv p2, iv p3, iv p4, iv p5, iv p6, iv (2 : Int32), iv f1, iv ca, iv cb, iv cc, iv cd, rv sB, iv (2 : Int32), .unset] []) s1 EF := fun t k => pre109 t (XS.icmpYes X102.here hx rfl (pc0 := 115) (pc' := 135) rfl (B at_115) rfl (tlt hc115).1 (by decide) (by decide) k)
        exact ⟨_, _, (2 : Int32), X102, N102, e102, (by unfold stepF; rw [if_pos hc115]), pre110⟩
      have pre111 : Go p e bl T102 (mkF m 118 #[iv p1, iv p2, iv p3, iv p4, iv p5, iv p6, iv (2 : Int32), iv f1, iv ca, iv cb, iv cc, iv cd, rv sB, iv (2 : Int32), .unset] []) s1 EF := fun t k => pre109 t (XS.icmpNo X102.here hx rfl (B at_115) rfl (flt hc115).1 k)
      have pre112 : Go p e bl T102 (mkF m 121 #[iv p1, iv p2, iv p3, iv p4, iv p5, iv p6, iv (2 : Int32), iv f1, iv ca, iv cb, iv cc, iv cd, rv sB, iv (2 : Int32), .unset] [(.int (2 : Int32)), (.int (1 : Int32))]) s1 EF := fun t k => pre111 t (by
       refine XS.iconst X102.here hx rfl (B at_118) ?_
       exact XS.iload X102.here hx rfl (B at_119) rfl k)
      have pre113 : Go p e bl T102 (mkF m 124 #[iv p1, iv p2, iv p3, iv p4, iv p5, iv p6, iv (2 : Int32), iv f1, iv ca, iv cb, iv cc, iv cd, rv sB, iv (2 : Int32), .unset] []) s1 EF := fun t k => pre112 t (XS.icmpNo X102.here hx rfl (B at_121) rfl (tlt (by decide : (1 : Int32) < (2 : Int32))).2.1 k)
      have pre114 : Go p e bl T102 (mkF m 126 #[iv p1, iv p2, iv p3, iv p4, iv p5, iv p6, iv (2 : Int32), iv f1, iv ca, iv cb, iv cc, iv cd, rv sB, iv (2 : Int32), .unset] [(.int cb)]) s1 EF := fun t k => pre113 t (by
       exact XS.iload X102.here hx rfl (B at_124) rfl k)
      obtain ⟨_, _, ⟨T115, L115, k115, n115⟩, -, X115, ⟨Lc115, hQ115, l115, y115, z115⟩, st115⟩ := Jvm.LawKit.callS X102 hx (y := mN21) hown0 (mvT hZ0 (hw _ (mW 53 rfl))) (mvT hZ0 (hw _ (mW 54 rfl))) (mvT hZ0 (hw _ (mW 4 rfl))) (mvT hZ0 (hw _ (mW 55 rfl))) (by decide) (backOf (W := 0) (rmE l Z a0 hw [] cb (expF cb) T92.heap n0 Z94 rfl) hZ0 (hw _ (mW 55 rfl)) (hw _ (mW 4 rfl)) (by decide) (by decide)) (g := (mkF m 126 #[iv p1, iv p2, iv p3, iv p4, iv p5, iv p6, iv (2 : Int32), iv f1, iv ca, iv cb, iv cc, iv cd, rv sB, iv (2 : Int32), .unset] [(.int cb)])) rfl (hM rfl) (argsL := [(.int cb)]) (rest := []) (lenOf pd20 rfl) rfl (Nat.le_of_eq rfl) (B at_126) (fun _ _ => ⟨rfl, e102, wl rfl, wl rfl⟩)
      dsimp only [Pt.U, Pt.locs, Pt.cells, Pt.slots] at X115 l115 y115 z115 st115 hQ115
      subst l115 y115 z115
      obtain ⟨rfl, N115q, hq115⟩ := hQ115
      have N115 := Fr.app N102 N115q
      have pre116 : Go p e bl T115 (mkF m 129 #[iv p1, iv p2, iv p3, iv p4, iv p5, iv p6, iv (2 : Int32), iv f1, iv ca, iv cb, iv cc, iv cd, rv sB, iv (2 : Int32), .unset] [(.int (expF cb))]) s1 EF := fun t k => pre114 t (st115 t k)
      have e115 : T115.heap = T92.heap := hq115
      by_cases hc129 : (expF cb) = (0 : Int32)
      · have pre117 : Go p e bl T115 (mkF m 132 #[iv p1, iv p2, iv p3, iv p4, iv p5, iv p6, iv (2 : Int32), iv f1, iv ca, iv cb, iv cc, iv cd, rv sB, iv (2 : Int32), .unset] []) s1 EF := fun t k => pre116 t (XS.ifNo X115.here hx rfl (B at_129) rfl ((if0 _ _).trans (teq hc129).2) k)
        have pre118 : Go p e bl T115 (mkF m 135 #[iv p1, iv p2, iv p3, iv p4, iv p5, iv p6, iv (2 : Int32), iv f1, iv ca, iv cb, iv cc, iv cd, rv sB, iv (1 : Int32), .unset] []) s1 EF := fun t k => pre117 t (by
         refine XS.iconst X115.here hx rfl (B at_132) ?_
         exact XS.istore X115.here hx rfl (B at_133) rfl (l' := #[iv p1, iv p2, iv p3, iv p4, iv p5, iv p6, iv (2 : Int32), iv f1, iv ca, iv cb, iv cc, iv cd, rv sB, iv (1 : Int32), .unset]) rfl k)
        exact ⟨_, _, (1 : Int32), X115, N115, e115, (by unfold stepF; rw [if_neg hc115, if_pos hc129]), pre118⟩
      have pre119 : Go p e bl T115 (mkF m 135 #[iv p1, iv p2, iv p3, iv p4, iv p5, iv p6, iv (2 : Int32), iv f1, iv ca, iv cb, iv cc, iv cd, rv sB, iv (2 : Int32), .unset] []) s1 EF := fun t k => pre116 t (XS.ifYes X115.here hx rfl (pc0 := 129) (pc' := 135) rfl (B at_129) rfl ((if0 _ _).trans (feq hc129).2) (by decide) (by decide) k)
      exact ⟨_, _, (2 : Int32), X115, N115, e115, (by unfold stepF; rw [if_neg hc115, if_neg hc129]), pre119⟩
    obtain ⟨T120, LJ120, r0, X120, N120, e120, hj120_0, pre120⟩ : ∃ (TJ : State) (LJ : List Loc) (r0 : Int32), Stand p l e room_1 (s.setVm s.vm) m #[(.int p1), (.int p2), (.int p3), (.int p4), (.int p5), (.int p6)] bl meth c TJ LJ 4 12 ∧ Fr n0 LJ ∧ TJ.heap = T92.heap ∧ (r0 = stepF 0 f1 ca r1) ∧ Go p e bl TJ (mkF m 158 #[iv p1, iv p2, iv p3, iv p4, iv p5, iv p6, iv (2 : Int32), iv f1, iv ca, iv cb, iv cc, iv cd, rv sB, iv r0, .unset] []) s1 EF := by
      have pre121 : Go p e bl T108 (mkF m 138 #[iv p1, iv p2, iv p3, iv p4, iv p5, iv p6, iv (2 : Int32), iv f1, iv ca, iv cb, iv cc, iv cd, rv sB, iv r1, .unset] [(.int f1), (.int (0 : Int32))]) s1 EF := fun t k => pre108 t (by
       refine XS.iconst X108.here hx rfl (B at_135) ?_
       exact XS.iload X108.here hx rfl (B at_136) rfl k)
      by_cases hc138 : (0 : Int32) < f1
      · have pre122 : Go p e bl T108 (mkF m 158 #[iv p1, iv p2, iv p3, iv p4, iv p5, iv p6, iv (2 : Int32), iv f1, iv ca, iv cb, iv cc, iv cd, rv sB, iv r1, .unset] []) s1 EF := fun t k => pre121 t (XS.icmpYes X108.here hx rfl (pc0 := 138) (pc' := 158) rfl (B at_138) rfl (tlt hc138).1 (by decide) (by decide) k)
        exact ⟨_, _, r1, X108, N108, e108, (by unfold stepF; rw [if_pos hc138]), pre122⟩
      have pre123 : Go p e bl T108 (mkF m 141 #[iv p1, iv p2, iv p3, iv p4, iv p5, iv p6, iv (2 : Int32), iv f1, iv ca, iv cb, iv cc, iv cd, rv sB, iv r1, .unset] []) s1 EF := fun t k => pre121 t (XS.icmpNo X108.here hx rfl (B at_138) rfl (flt hc138).1 k)
      have pre124 : Go p e bl T108 (mkF m 144 #[iv p1, iv p2, iv p3, iv p4, iv p5, iv p6, iv (2 : Int32), iv f1, iv ca, iv cb, iv cc, iv cd, rv sB, iv r1, .unset] [(.int (2 : Int32)), (.int (0 : Int32))]) s1 EF := fun t k => pre123 t (by
       refine XS.iconst X108.here hx rfl (B at_141) ?_
       exact XS.iload X108.here hx rfl (B at_142) rfl k)
      have pre125 : Go p e bl T108 (mkF m 147 #[iv p1, iv p2, iv p3, iv p4, iv p5, iv p6, iv (2 : Int32), iv f1, iv ca, iv cb, iv cc, iv cd, rv sB, iv r1, .unset] []) s1 EF := fun t k => pre124 t (XS.icmpNo X108.here hx rfl (B at_144) rfl (tlt (by decide : (0 : Int32) < (2 : Int32))).2.1 k)
      have pre126 : Go p e bl T108 (mkF m 149 #[iv p1, iv p2, iv p3, iv p4, iv p5, iv p6, iv (2 : Int32), iv f1, iv ca, iv cb, iv cc, iv cd, rv sB, iv r1, .unset] [(.int ca)]) s1 EF := fun t k => pre125 t (by
       exact XS.iload X108.here hx rfl (B at_147) rfl k)
      obtain ⟨_, _, ⟨T127, L127, k127, n127⟩, -, X127, ⟨Lc127, hQ127, l127, y127, z127⟩, st127⟩ := Jvm.LawKit.callS X108 hx (y := mN21) hown0 (mvT hZ0 (hw _ (mW 53 rfl))) (mvT hZ0 (hw _ (mW 54 rfl))) (mvT hZ0 (hw _ (mW 4 rfl))) (mvT hZ0 (hw _ (mW 55 rfl))) (by decide) (backOf (W := 0) (rmE l Z a0 hw [] ca (expF ca) T92.heap n0 Z94 rfl) hZ0 (hw _ (mW 55 rfl)) (hw _ (mW 4 rfl)) (by decide) (by decide)) (g := (mkF m 149 #[iv p1, iv p2, iv p3, iv p4, iv p5, iv p6, iv (2 : Int32), iv f1, iv ca, iv cb, iv cc, iv cd, rv sB, iv r1, .unset] [(.int ca)])) rfl (hM rfl) (argsL := [(.int ca)]) (rest := []) (lenOf pd20 rfl) rfl (Nat.le_of_eq rfl) (B at_149) (fun _ _ => ⟨rfl, e108, wl rfl, wl rfl⟩)
      dsimp only [Pt.U, Pt.locs, Pt.cells, Pt.slots] at X127 l127 y127 z127 st127 hQ127
      subst l127 y127 z127
      obtain ⟨rfl, N127q, hq127⟩ := hQ127
      have N127 := Fr.app N108 N127q
      have pre128 : Go p e bl T127 (mkF m 152 #[iv p1, iv p2, iv p3, iv p4, iv p5, iv p6, iv (2 : Int32), iv f1, iv ca, iv cb, iv cc, iv cd, rv sB, iv r1, .unset] [(.int (expF ca))]) s1 EF := fun t k => pre126 t (st127 t k)
      have e127 : T127.heap = T92.heap := hq127
      by_cases hc152 : (expF ca) = (0 : Int32)
      · have pre129 : Go p e bl T127 (mkF m 155 #[iv p1, iv p2, iv p3, iv p4, iv p5, iv p6, iv (2 : Int32), iv f1, iv ca, iv cb, iv cc, iv cd, rv sB, iv r1, .unset] []) s1 EF := fun t k => pre128 t (XS.ifNo X127.here hx rfl (B at_152) rfl ((if0 _ _).trans (teq hc152).2) k)
        have pre130 : Go p e bl T127 (mkF m 158 #[iv p1, iv p2, iv p3, iv p4, iv p5, iv p6, iv (2 : Int32), iv f1, iv ca, iv cb, iv cc, iv cd, rv sB, iv (0 : Int32), .unset] []) s1 EF := fun t k => pre129 t (by
         refine XS.iconst X127.here hx rfl (B at_155) ?_
         exact XS.istore X127.here hx rfl (B at_156) rfl (l' := #[iv p1, iv p2, iv p3, iv p4, iv p5, iv p6, iv (2 : Int32), iv f1, iv ca, iv cb, iv cc, iv cd, rv sB, iv (0 : Int32), .unset]) rfl k)
        exact ⟨_, _, (0 : Int32), X127, N127, e127, (by unfold stepF; rw [if_neg hc138, if_pos hc152]), pre130⟩
      have pre131 : Go p e bl T127 (mkF m 158 #[iv p1, iv p2, iv p3, iv p4, iv p5, iv p6, iv (2 : Int32), iv f1, iv ca, iv cb, iv cc, iv cd, rv sB, iv r1, .unset] []) s1 EF := fun t k => pre128 t (XS.ifYes X127.here hx rfl (pc0 := 152) (pc' := 158) rfl (B at_152) rfl ((if0 _ _).trans (feq hc152).2) (by decide) (by decide) k)
      exact ⟨_, _, r1, X127, N127, e127, (by unfold stepF; rw [if_neg hc138, if_neg hc152]), pre131⟩
    obtain ⟨T132, LJ132, ex1, X132, N132, e132, hj132_0, pre132⟩ : ∃ (TJ : State) (LJ : List Loc) (ex1 : Int32), Stand p l e room_1 (s.setVm s.vm) m #[(.int p1), (.int p2), (.int p3), (.int p4), (.int p5), (.int p6)] bl meth c TJ LJ 4 12 ∧ Fr n0 LJ ∧ TJ.heap = T92.heap ∧ (ex1 = if f1 < (2 : Int32) then r0 else f1) ∧ Go p e bl TJ (mkF m 174 #[iv p1, iv p2, iv p3, iv p4, iv p5, iv p6, iv (2 : Int32), iv f1, iv ca, iv cb, iv cc, iv cd, rv sB, iv r0, iv ex1] []) s1 EF := by
      have pre133 : Go p e bl T120 (mkF m 162 #[iv p1, iv p2, iv p3, iv p4, iv p5, iv p6, iv (2 : Int32), iv f1, iv ca, iv cb, iv cc, iv cd, rv sB, iv r0, .unset] [(.int (2 : Int32)), (.int f1)]) s1 EF := fun t k => pre120 t (by
       refine XS.iload X120.here hx rfl (B at_158) rfl ?_
       exact XS.iload X120.here hx rfl (B at_160) rfl k)
      by_cases hc162 : f1 < (2 : Int32)
      · have pre134 : Go p e bl T120 (mkF m 170 #[iv p1, iv p2, iv p3, iv p4, iv p5, iv p6, iv (2 : Int32), iv f1, iv ca, iv cb, iv cc, iv cd, rv sB, iv r0, .unset] []) s1 EF := fun t k => pre133 t (XS.icmpYes X120.here hx rfl (pc0 := 162) (pc' := 170) rfl (B at_162) rfl (tlt hc162).1 (by decide) (by decide) k)
        have pre135 : Go p e bl T120 (mkF m 174 #[iv p1, iv p2, iv p3, iv p4, iv p5, iv p6, iv (2 : Int32), iv f1, iv ca, iv cb, iv cc, iv cd, rv sB, iv r0, iv r0] []) s1 EF := fun t k => pre134 t (by
         refine XS.iload X120.here hx rfl (B at_170) rfl ?_
         exact XS.istore X120.here hx rfl (B at_172) rfl (l' := #[iv p1, iv p2, iv p3, iv p4, iv p5, iv p6, iv (2 : Int32), iv f1, iv ca, iv cb, iv cc, iv cd, rv sB, iv r0, iv r0]) rfl k)
        exact ⟨_, _, r0, X120, N120, e120, (by rw [if_pos hc162]), pre135⟩
      have pre136 : Go p e bl T120 (mkF m 165 #[iv p1, iv p2, iv p3, iv p4, iv p5, iv p6, iv (2 : Int32), iv f1, iv ca, iv cb, iv cc, iv cd, rv sB, iv r0, .unset] []) s1 EF := fun t k => pre133 t (XS.icmpNo X120.here hx rfl (B at_162) rfl (flt hc162).1 k)
      have pre137 : Go p e bl T120 (mkF m 174 #[iv p1, iv p2, iv p3, iv p4, iv p5, iv p6, iv (2 : Int32), iv f1, iv ca, iv cb, iv cc, iv cd, rv sB, iv r0, iv f1] []) s1 EF := fun t k => pre136 t (by
       refine XS.iload X120.here hx rfl (B at_165) rfl ?_
       refine XS.goto X120.here hx rfl (pc0 := 167) (pc' := 172) rfl (B at_167) (by decide) (by decide) ?_
       exact XS.istore X120.here hx rfl (B at_172) rfl (l' := #[iv p1, iv p2, iv p3, iv p4, iv p5, iv p6, iv (2 : Int32), iv f1, iv ca, iv cb, iv cc, iv cd, rv sB, iv r0, iv f1]) rfl k)
      exact ⟨_, _, f1, X120, N120, e120, (by rw [if_neg hc162]), pre137⟩
    have pre138 : Go p e bl T132 (mkF m 178 #[iv p1, iv p2, iv p3, iv p4, iv p5, iv p6, iv (2 : Int32), iv f1, iv ca, iv cb, iv cc, iv cd, rv sB, iv r0, iv ex1] [(.int f1), (.ref sB)]) s1 EF := fun t k => pre132 t (by
     refine XS.aload X132.here hx rfl (B at_174) rfl rfl ?_
     exact XS.iload X132.here hx rfl (B at_176) rfl k)
    obtain ⟨_, _, ⟨T139, L139, k139, n139⟩, -, X139, ⟨Lc139, hQ139, l139, y139, z139⟩, st139⟩ := Jvm.LawKit.callS X132 hx (y := mN23) hown0 (mvT hZ0 (hw _ (mW 28 rfl))) (mvT hZ0 (hw _ (mW 29 rfl))) (mvT hZ0 (hw _ (mW 30 rfl))) (mvT hZ0 (hw _ (mW 31 rfl))) (by decide) (backOf (W := 0) (rmK2 l Z a0 hw [] sB f1 cz fv ta cl ca cb ex1 T92.heap n0 Z94 O94 J0 S0 TB HT SF92 hf1 (by rw [hj132_0, hj120_0, hj108_0])) hZ0 (hw _ (mW 31 rfl)) (hw _ (mW 30 rfl)) (by decide) (by decide)) (g := (mkF m 178 #[iv p1, iv p2, iv p3, iv p4, iv p5, iv p6, iv (2 : Int32), iv f1, iv ca, iv cb, iv cc, iv cd, rv sB, iv r0, iv ex1] [(.int f1), (.ref sB)])) rfl (hM rfl) (argsL := [(.ref sB), (.int f1)]) (rest := []) (lenOf pd19 rfl) rfl (Nat.le_of_eq rfl) (B at_178) (fun _ _ => ⟨rfl, e132, wl rfl, wl rfl⟩)
    dsimp only [Pt.U, Pt.locs, Pt.cells, Pt.slots] at X139 l139 y139 z139 st139 hQ139
    subst l139 y139 z139
    obtain ⟨rfl, N139q, hq139⟩ := hQ139
    have N139 := Fr.app N132 N139q
    have pre140 : Go p e bl T139 (mkF m 181 #[iv p1, iv p2, iv p3, iv p4, iv p5, iv p6, iv (2 : Int32), iv f1, iv ca, iv cb, iv cc, iv cd, rv sB, iv r0, iv ex1] [(.int ex1)]) s1 EF := fun t k => pre138 t (st139 t k)
    have e139 : T139.heap = T92.heap := hq139
    have pre141 : Go p e bl T139 (mkF m 183 #[iv p1, iv p2, iv p3, iv p4, iv p5, iv p6, iv (2 : Int32), iv f1, iv ca, iv cb, iv cc, iv cd, rv sB, iv r0, iv ex1] [(.int ex1), (.int ex1)]) s1 EF := fun t k => pre140 t (by
     exact XS.iload X139.here hx rfl (B at_181) rfl k)
    have pre142 : Go p e bl T139 (mkF m 186 #[iv p1, iv p2, iv p3, iv p4, iv p5, iv p6, iv (2 : Int32), iv f1, iv ca, iv cb, iv cc, iv cd, rv sB, iv r0, iv ex1] []) s1 EF := fun t k => pre141 t (XS.icmpNo X139.here hx rfl (B at_183) rfl (teq (rfl : ex1 = ex1)).2 k)
    have pre143 : Go p e bl T139 (mkF m 191 #[iv p1, iv p2, iv p3, iv p4, iv p5, iv p6, iv (2 : Int32), iv f1, iv ca, iv cb, iv cc, iv cd, rv sB, iv r0, iv ex1] [(.int (1 : Int32))]) s1 EF := fun t k => pre142 t (by
     refine XS.iconst X139.here hx rfl (B at_186) ?_
     exact XS.goto X139.here hx rfl (pc0 := 187) (pc' := 191) rfl (B at_187) (by decide) (by decide) k)
    have hnr : Value.int (nar .boolean (1 : Int32)) = (.int (1 : Int32)) := by rfl
    obtain ⟨fs, hr, hrun, hended, hend1, hend2, hend3, hsame⟩ := X139.leaveW hS0 (by rw [e139]; exact hk94) (v := some (.int (1 : Int32))) (fun h => by rw [Bd.returns] at h; cases h)
    have hCH : CHr Z [("java/lang/String", 7)] s.vm s.heap T139.vm T139.heap := by rw [hh, e139]; exact R94.trans (CHv.at X139 hZ0 (own_EW hw) C94)
    refine ⟨_, _, hEF ▸ pre143 _ (retN X139 hx (t := .boolean) Bd.returns (by simp) (B at_191) (hnr ▸ hr)), hrun, hended, _, _, rfl, ?_, hCH, hend1, hend2, hend3, hsame.mono (by decide) (by decide)⟩
    show QL Z p1 p2 p3 p4 p5 p6 cz fv ta cl h0 n0 _ T139.heap _
    rw [e139]
    exact ⟨rfl, N139⟩
  · subst hv2_3
    have pre144 : Go p e bl s1 (mkF m 57 #[iv p1, iv p2, iv p3, iv p4, iv p5, iv p6, iv (3 : Int32), iv f1, iv ca, iv cb, iv cc, iv cd, .unset, .unset, .unset] [(.int cd), (.int cc), (.int cb), (.int ca), (.int (3 : Int32))]) s1 EF := fun t k => pre1 t (by
     refine XS.iload X0.here hx rfl (B at_47) rfl ?_
     refine XS.iload X0.here hx rfl (B at_49) rfl ?_
     refine XS.iload X0.here hx rfl (B at_51) rfl ?_
     refine XS.iload X0.here hx rfl (B at_53) rfl ?_
     exact XS.iload X0.here hx rfl (B at_55) rfl k)
    obtain ⟨_, _, ⟨T145, L145, k145, n145⟩, -, X145, ⟨Lc145, hQ145, l145, y145, z145⟩, st145⟩ := Jvm.LawKit.callS X0 hx (y := mN22) hown0 (mvT hZ0 (hw _ (mW 2 rfl))) (mvT hZ0 (hw _ (mW 3 rfl))) (mvT hZ0 (hw _ (mW 4 rfl))) (mvT hZ0 (hw _ (mW 5 rfl))) (by decide) (backOf (W := 0) (rmB3 l Z a0 hw [] ca cb cc cd cz fv  h0 n0 Z0 O0 J0 rca rcb rcc rcd) hZ0 (hw _ (mW 5 rfl)) (hw _ (mW 4 rfl)) (by decide) (by decide)) (g := (mkF m 57 #[iv p1, iv p2, iv p3, iv p4, iv p5, iv p6, iv (3 : Int32), iv f1, iv ca, iv cb, iv cc, iv cd, .unset, .unset, .unset] [(.int cd), (.int cc), (.int cb), (.int ca), (.int (3 : Int32))])) rfl (hM rfl) (argsL := [(.int (3 : Int32)), (.int ca), (.int cb), (.int cc), (.int cd)]) (rest := []) (lenOf pd18 rfl) rfl (Nat.le_of_eq rfl) (B at_57) (fun _ _ => ⟨rfl, e0, wl rfl, wl rfl⟩)
    dsimp only [Pt.U, Pt.locs, Pt.cells, Pt.slots] at X145 l145 y145 z145 st145 hQ145
    subst l145 y145 z145
    obtain ⟨sB, rfl, N145q, K145, SF145⟩ := hQ145
    have N145 := Fr.app N0 N145q
    have pre146 : Go p e bl T145 (mkF m 60 #[iv p1, iv p2, iv p3, iv p4, iv p5, iv p6, iv (3 : Int32), iv f1, iv ca, iv cb, iv cc, iv cd, .unset, .unset, .unset] [(.ref sB)]) s1 EF := fun t k => pre144 t (st145 t k)
    have O147 : Old Z n0 T145.heap := O0.keep K145 all0
    have Z147 : n0 ≤ T145.heap.size := Nat.le_trans Z0 K145.1
    have hk147 := Nat.le_trans hk0 K145.1
    have C147 := CHv.keep K145 sf0 hC
    have R147 := (CHr.refl hC).trans (CHr.keep K145 sf0 hC)
    have pre148 : Go p e bl T145 (mkF m 66 #[iv p1, iv p2, iv p3, iv p4, iv p5, iv p6, iv (3 : Int32), iv f1, iv ca, iv cb, iv cc, iv cd, rv sB, iv (3 : Int32), .unset] []) s1 EF := fun t k => pre146 t (by
     refine XS.astore X145.here hx rfl (B at_60) rfl rfl (l' := #[iv p1, iv p2, iv p3, iv p4, iv p5, iv p6, iv (3 : Int32), iv f1, iv ca, iv cb, iv cc, iv cd, rv sB, .unset, .unset]) rfl ?_
     refine XS.iload X145.here hx rfl (B at_62) rfl ?_
     exact XS.istore X145.here hx rfl (B at_64) rfl (l' := #[iv p1, iv p2, iv p3, iv p4, iv p5, iv p6, iv (3 : Int32), iv f1, iv ca, iv cb, iv cc, iv cd, rv sB, iv (3 : Int32), .unset]) rfl k)
    obtain ⟨T149, LJ149, X149, N149, e149, pre149⟩ : ∃ (TJ : State) (LJ : List Loc) , Stand p l e room_1 (s.setVm s.vm) m #[(.int p1), (.int p2), (.int p3), (.int p4), (.int p5), (.int p6)] bl meth c TJ LJ 4 16 ∧ Fr n0 LJ ∧ TJ.heap = T145.heap ∧ Go p e bl TJ (mkF m 89 #[iv p1, iv p2, iv p3, iv p4, iv p5, iv p6, iv (3 : Int32), iv f1, iv ca, iv cb, iv cc, iv cd, rv sB, iv (3 : Int32), .unset] []) s1 EF := by
      have pre150 : Go p e bl T145 (mkF m 69 #[iv p1, iv p2, iv p3, iv p4, iv p5, iv p6, iv (3 : Int32), iv f1, iv ca, iv cb, iv cc, iv cd, rv sB, iv (3 : Int32), .unset] [(.int f1), (.int (3 : Int32))]) s1 EF := fun t k => pre148 t (by
       refine XS.iconst X145.here hx rfl (B at_66) ?_
       exact XS.iload X145.here hx rfl (B at_67) rfl k)
      by_cases hc69 : (3 : Int32) < f1
      · have pre151 : Go p e bl T145 (mkF m 89 #[iv p1, iv p2, iv p3, iv p4, iv p5, iv p6, iv (3 : Int32), iv f1, iv ca, iv cb, iv cc, iv cd, rv sB, iv (3 : Int32), .unset] []) s1 EF := fun t k => pre150 t (XS.icmpYes X145.here hx rfl (pc0 := 69) (pc' := 89) rfl (B at_69) rfl (tlt hc69).1 (by decide) (by decide) k)
        exact ⟨_, _, X145, N145, rfl, pre151⟩
      have pre152 : Go p e bl T145 (mkF m 72 #[iv p1, iv p2, iv p3, iv p4, iv p5, iv p6, iv (3 : Int32), iv f1, iv ca, iv cb, iv cc, iv cd, rv sB, iv (3 : Int32), .unset] []) s1 EF := fun t k => pre150 t (XS.icmpNo X145.here hx rfl (B at_69) rfl (flt hc69).1 k)
      have pre153 : Go p e bl T145 (mkF m 75 #[iv p1, iv p2, iv p3, iv p4, iv p5, iv p6, iv (3 : Int32), iv f1, iv ca, iv cb, iv cc, iv cd, rv sB, iv (3 : Int32), .unset] [(.int (3 : Int32)), (.int (3 : Int32))]) s1 EF := fun t k => pre152 t (by
       refine XS.iconst X145.here hx rfl (B at_72) ?_
       exact XS.iload X145.here hx rfl (B at_73) rfl k)
      have pre154 : Go p e bl T145 (mkF m 89 #[iv p1, iv p2, iv p3, iv p4, iv p5, iv p6, iv (3 : Int32), iv f1, iv ca, iv cb, iv cc, iv cd, rv sB, iv (3 : Int32), .unset] []) s1 EF := fun t k => pre153 t (XS.icmpYes X145.here hx rfl (pc0 := 75) (pc' := 89) rfl (B at_75) rfl (flt (by decide : ¬ ((3 : Int32) < (3 : Int32)))).2.1 (by decide) (by decide) k)
      exact ⟨_, _, X145, N145, rfl, pre154⟩
    obtain ⟨T155, LJ155, r2, X155, N155, e155, hj155_0, pre155⟩ : ∃ (TJ : State) (LJ : List Loc) (r2 : Int32), Stand p l e room_1 (s.setVm s.vm) m #[(.int p1), (.int p2), (.int p3), (.int p4), (.int p5), (.int p6)] bl meth c TJ LJ 4 16 ∧ Fr n0 LJ ∧ TJ.heap = T145.heap ∧ (r2 = stepF 2 f1 cc (3 : Int32)) ∧ Go p e bl TJ (mkF m 112 #[iv p1, iv p2, iv p3, iv p4, iv p5, iv p6, iv (3 : Int32), iv f1, iv ca, iv cb, iv cc, iv cd, rv sB, iv r2, .unset] []) s1 EF := by
      have pre156 : Go p e bl T149 (mkF m 92 #[iv p1, iv p2, iv p3, iv p4, iv p5, iv p6, iv (3 : Int32), iv f1, iv ca, iv cb, iv cc, iv cd, rv sB, iv (3 : Int32), .unset] [(.int f1), (.int (2 : Int32))]) s1 EF := fun t k => pre149 t (by
       refine XS.iconst X149.here hx rfl (B at_89) ?_
       exact XS.iload X149.here hx rfl (B at_90) rfl k)
      by_cases hc92 : (2 : Int32) < f1
      · have pre157 : Go p e bl T149 (mkF m 112 #[iv p1, iv p2, iv p3, iv p4, iv p5, iv p6, iv (3 : Int32), iv f1, iv ca, iv cb, iv cc, iv cd, rv sB, iv (3 : Int32), .unset] []) s1 EF := fun t k => pre156 t (XS.icmpYes X149.here hx rfl (pc0 := 92) (pc' := 112) rfl (B at_92) rfl (tlt hc92).1 (by decide) (by decide) k)
        exact ⟨_, _, (3 : Int32), X149, N149, e149, (by unfold stepF; rw [if_pos hc92]), pre157⟩
      have pre158 : Go p e bl T149 (mkF m 95 #[iv p1, iv p2, iv p3, iv p4, iv p5, iv p6, iv (3 : Int32), iv f1, iv ca, iv cb, iv cc, iv cd, rv sB, iv (3 : Int32), .unset] []) s1 EF := fun t k => pre156 t (XS.icmpNo X149.here hx rfl (B at_92) rfl (flt hc92).1 k)
      have pre159 : Go p e bl T149 (mkF m 98 #[iv p1, iv p2, iv p3, iv p4, iv p5, iv p6, iv (3 : Int32), iv f1, iv ca, iv cb, iv cc, iv cd, rv sB, iv (3 : Int32), .unset] [(.int (3 : Int32)), (.int (2 : Int32))]) s1 EF := fun t k => pre158 t (by
       refine XS.iconst X149.here hx rfl (B at_95) ?_
       exact XS.iload X149.here hx rfl (B at_96) rfl k)
      have pre160 : Go p e bl T149 (mkF m 101 #[iv p1, iv p2, iv p3, iv p4, iv p5, iv p6, iv (3 : Int32), iv f1, iv ca, iv cb, iv cc, iv cd, rv sB, iv (3 : Int32), .unset] []) s1 EF := fun t k => pre159 t (XS.icmpNo X149.here hx rfl (B at_98) rfl (tlt (by decide : (2 : Int32) < (3 : Int32))).2.1 k)
      have pre161 : Go p e bl T149 (mkF m 103 #[iv p1, iv p2, iv p3, iv p4, iv p5, iv p6, iv (3 : Int32), iv f1, iv ca, iv cb, iv cc, iv cd, rv sB, iv (3 : Int32), .unset] [(.int cc)]) s1 EF := fun t k => pre160 t (by
       exact XS.iload X149.here hx rfl (B at_101) rfl k)
      obtain ⟨_, _, ⟨T162, L162, k162, n162⟩, -, X162, ⟨Lc162, hQ162, l162, y162, z162⟩, st162⟩ := Jvm.LawKit.callS X149 hx (y := mN21) hown0 (mvT hZ0 (hw _ (mW 53 rfl))) (mvT hZ0 (hw _ (mW 54 rfl))) (mvT hZ0 (hw _ (mW 4 rfl))) (mvT hZ0 (hw _ (mW 55 rfl))) (by decide) (backOf (W := 0) (rmE l Z a0 hw [] cc (expF cc) T145.heap n0 Z147 rfl) hZ0 (hw _ (mW 55 rfl)) (hw _ (mW 4 rfl)) (by decide) (by decide)) (g := (mkF m 103 #[iv p1, iv p2, iv p3, iv p4, iv p5, iv p6, iv (3 : Int32), iv f1, iv ca, iv cb, iv cc, iv cd, rv sB, iv (3 : Int32), .unset] [(.int cc)])) rfl (hM rfl) (argsL := [(.int cc)]) (rest := []) (lenOf pd20 rfl) rfl (Nat.le_of_eq rfl) (B at_103) (fun _ _ => ⟨rfl, e149, wl rfl, wl rfl⟩)
      dsimp only [Pt.U, Pt.locs, Pt.cells, Pt.slots] at X162 l162 y162 z162 st162 hQ162
      subst l162 y162 z162
      obtain ⟨rfl, N162q, hq162⟩ := hQ162
      have N162 := Fr.app N149 N162q
      have pre163 : Go p e bl T162 (mkF m 106 #[iv p1, iv p2, iv p3, iv p4, iv p5, iv p6, iv (3 : Int32), iv f1, iv ca, iv cb, iv cc, iv cd, rv sB, iv (3 : Int32), .unset] [(.int (expF cc))]) s1 EF := fun t k => pre161 t (st162 t k)
      have e162 : T162.heap = T145.heap := hq162
      by_cases hc106 : (expF cc) = (0 : Int32)
      · have pre164 : Go p e bl T162 (mkF m 109 #[iv p1, iv p2, iv p3, iv p4, iv p5, iv p6, iv (3 : Int32), iv f1, iv ca, iv cb, iv cc, iv cd, rv sB, iv (3 : Int32), .unset] []) s1 EF := fun t k => pre163 t (XS.ifNo X162.here hx rfl (B at_106) rfl ((if0 _ _).trans (teq hc106).2) k)
        have pre165 : Go p e bl T162 (mkF m 112 #[iv p1, iv p2, iv p3, iv p4, iv p5, iv p6, iv (3 : Int32), iv f1, iv ca, iv cb, iv cc, iv cd, rv sB, iv (2 : Int32), .unset] []) s1 EF := fun t k => pre164 t (by
         refine XS.iconst X162.here hx rfl (B at_109) ?_
         exact XS.istore X162.here hx rfl (B at_110) rfl (l' := #[iv p1, iv p2, iv p3, iv p4, iv p5, iv p6, iv (3 : Int32), iv f1, iv ca, iv cb, iv cc, iv cd, rv sB, iv (2 : Int32), .unset]) rfl k)
        exact ⟨_, _, (2 : Int32), X162, N162, e162, (by unfold stepF; rw [if_neg hc92, if_pos hc106]), pre165⟩
      have pre166 : Go p e bl T162 (mkF m 112 #[iv p1, iv p2, iv p3, iv p4, iv p5, iv p6, iv (3 : Int32), iv f1, iv ca, iv cb, iv cc, iv cd, rv sB, iv (3 : Int32), .unset] []) s1 EF := fun t k => pre163 t (XS.ifYes X162.here hx rfl (pc0 := 106) (pc' := 112) rfl (B at_106) rfl ((if0 _ _).trans (feq hc106).2) (by decide) (by decide) k)
      exact ⟨_, _, (3 : Int32), X162, N162, e162, (by unfold stepF; rw [if_neg hc92, if_neg hc106]), pre166⟩
    obtain ⟨T167, LJ167, r1, X167, N167, e167, hj167_0, pre167⟩ : ∃ (TJ : State) (LJ : List Loc) (r1 : Int32), Stand p l e room_1 (s.setVm s.vm) m #[(.int p1), (.int p2), (.int p3), (.int p4), (.int p5), (.int p6)] bl meth c TJ LJ 4 16 ∧ Fr n0 LJ ∧ TJ.heap = T145.heap ∧ (r1 = stepF 1 f1 cb r2) ∧ Go p e bl TJ (mkF m 135 #[iv p1, iv p2, iv p3, iv p4, iv p5, iv p6, iv (3 : Int32), iv f1, iv ca, iv cb, iv cc, iv cd, rv sB, iv r1, .unset] []) s1 EF := by
      have pre168 : Go p e bl T155 (mkF m 115 #[iv p1, iv p2, iv p3, iv p4, iv p5, iv p6, iv (3 : Int32), iv f1, iv ca, iv cb, iv cc, iv cd, rv sB, iv r2, .unset] [(.int f1), (.int (1 : Int32))]) s1 EF := fun t k => pre155 t (by
       refine XS.iconst X155.here hx rfl (B at_112) ?_
       exact XS.iload X155.here hx rfl (B at_113) rfl k)
      by_cases hc115 : (1 : Int32) < f1
      · have pre169 : Go p e bl T155 (mkF m 135 #[iv p1, iv p2, iv p3, iv p4, iv p5, iv p6, iv (3 : Int32), iv f1, iv ca, iv cb, iv cc, iv cd, rv sB, iv r2, .unset] []) s1 EF := fun t k => pre168 t (XS.icmpYes X155.here hx rfl (pc0 := 115) (pc' := 135) rfl (B at_115) rfl (tlt hc115).1 (by decide) (by decide) k)
        exact ⟨_, _, r2, X155, N155, e155, (by unfold stepF; rw [if_pos hc115]), pre169⟩
      have pre170 : Go p e bl T155 (mkF m 118 #[iv p1, iv p2, iv p3, iv p4, iv p5, iv p6, iv (3 : Int32), iv f1, iv ca, iv cb, iv cc, iv cd, rv sB, iv r2, .unset] []) s1 EF := fun t k => pre168 t (XS.icmpNo X155.here hx rfl (B at_115) rfl (flt hc115).1 k)
      have pre171 : Go p e bl T155 (mkF m 121 #[iv p1, iv p2, iv p3, iv p4, iv p5, iv p6, iv (3 : Int32), iv f1, iv ca, iv cb, iv cc, iv cd, rv sB, iv r2, .unset] [(.int (3 : Int32)), (.int (1 : Int32))]) s1 EF := fun t k => pre170 t (by
       refine XS.iconst X155.here hx rfl (B at_118) ?_
       exact XS.iload X155.here hx rfl (B at_119) rfl k)
      have pre172 : Go p e bl T155 (mkF m 124 #[iv p1, iv p2, iv p3, iv p4, iv p5, iv p6, iv (3 : Int32), iv f1, iv ca, iv cb, iv cc, iv cd, rv sB, iv r2, .unset] []) s1 EF := fun t k => pre171 t (XS.icmpNo X155.here hx rfl (B at_121) rfl (tlt (by decide : (1 : Int32) < (3 : Int32))).2.1 k)
      have pre173 : Go p e bl T155 (mkF m 126 #[iv p1, iv p2, iv p3, iv p4, iv p5, iv p6, iv (3 : Int32), iv f1, iv ca, iv cb, iv cc, iv cd, rv sB, iv r2, .unset] [(.int cb)]) s1 EF := fun t k => pre172 t (by
       exact XS.iload X155.here hx rfl (B at_124) rfl k)
      obtain ⟨_, _, ⟨T174, L174, k174, n174⟩, -, X174, ⟨Lc174, hQ174, l174, y174, z174⟩, st174⟩ := Jvm.LawKit.callS X155 hx (y := mN21) hown0 (mvT hZ0 (hw _ (mW 53 rfl))) (mvT hZ0 (hw _ (mW 54 rfl))) (mvT hZ0 (hw _ (mW 4 rfl))) (mvT hZ0 (hw _ (mW 55 rfl))) (by decide) (backOf (W := 0) (rmE l Z a0 hw [] cb (expF cb) T145.heap n0 Z147 rfl) hZ0 (hw _ (mW 55 rfl)) (hw _ (mW 4 rfl)) (by decide) (by decide)) (g := (mkF m 126 #[iv p1, iv p2, iv p3, iv p4, iv p5, iv p6, iv (3 : Int32), iv f1, iv ca, iv cb, iv cc, iv cd, rv sB, iv r2, .unset] [(.int cb)])) rfl (hM rfl) (argsL := [(.int cb)]) (rest := []) (lenOf pd20 rfl) rfl (Nat.le_of_eq rfl) (B at_126) (fun _ _ => ⟨rfl, e155, wl rfl, wl rfl⟩)
      dsimp only [Pt.U, Pt.locs, Pt.cells, Pt.slots] at X174 l174 y174 z174 st174 hQ174
      subst l174 y174 z174
      obtain ⟨rfl, N174q, hq174⟩ := hQ174
      have N174 := Fr.app N155 N174q
      have pre175 : Go p e bl T174 (mkF m 129 #[iv p1, iv p2, iv p3, iv p4, iv p5, iv p6, iv (3 : Int32), iv f1, iv ca, iv cb, iv cc, iv cd, rv sB, iv r2, .unset] [(.int (expF cb))]) s1 EF := fun t k => pre173 t (st174 t k)
      have e174 : T174.heap = T145.heap := hq174
      by_cases hc129 : (expF cb) = (0 : Int32)
      · have pre176 : Go p e bl T174 (mkF m 132 #[iv p1, iv p2, iv p3, iv p4, iv p5, iv p6, iv (3 : Int32), iv f1, iv ca, iv cb, iv cc, iv cd, rv sB, iv r2, .unset] []) s1 EF := fun t k => pre175 t (XS.ifNo X174.here hx rfl (B at_129) rfl ((if0 _ _).trans (teq hc129).2) k)
        have pre177 : Go p e bl T174 (mkF m 135 #[iv p1, iv p2, iv p3, iv p4, iv p5, iv p6, iv (3 : Int32), iv f1, iv ca, iv cb, iv cc, iv cd, rv sB, iv (1 : Int32), .unset] []) s1 EF := fun t k => pre176 t (by
         refine XS.iconst X174.here hx rfl (B at_132) ?_
         exact XS.istore X174.here hx rfl (B at_133) rfl (l' := #[iv p1, iv p2, iv p3, iv p4, iv p5, iv p6, iv (3 : Int32), iv f1, iv ca, iv cb, iv cc, iv cd, rv sB, iv (1 : Int32), .unset]) rfl k)
        exact ⟨_, _, (1 : Int32), X174, N174, e174, (by unfold stepF; rw [if_neg hc115, if_pos hc129]), pre177⟩
      have pre178 : Go p e bl T174 (mkF m 135 #[iv p1, iv p2, iv p3, iv p4, iv p5, iv p6, iv (3 : Int32), iv f1, iv ca, iv cb, iv cc, iv cd, rv sB, iv r2, .unset] []) s1 EF := fun t k => pre175 t (XS.ifYes X174.here hx rfl (pc0 := 129) (pc' := 135) rfl (B at_129) rfl ((if0 _ _).trans (feq hc129).2) (by decide) (by decide) k)
      exact ⟨_, _, r2, X174, N174, e174, (by unfold stepF; rw [if_neg hc115, if_neg hc129]), pre178⟩
    obtain ⟨T179, LJ179, r0, X179, N179, e179, hj179_0, pre179⟩ : ∃ (TJ : State) (LJ : List Loc) (r0 : Int32), Stand p l e room_1 (s.setVm s.vm) m #[(.int p1), (.int p2), (.int p3), (.int p4), (.int p5), (.int p6)] bl meth c TJ LJ 4 16 ∧ Fr n0 LJ ∧ TJ.heap = T145.heap ∧ (r0 = stepF 0 f1 ca r1) ∧ Go p e bl TJ (mkF m 158 #[iv p1, iv p2, iv p3, iv p4, iv p5, iv p6, iv (3 : Int32), iv f1, iv ca, iv cb, iv cc, iv cd, rv sB, iv r0, .unset] []) s1 EF := by
      have pre180 : Go p e bl T167 (mkF m 138 #[iv p1, iv p2, iv p3, iv p4, iv p5, iv p6, iv (3 : Int32), iv f1, iv ca, iv cb, iv cc, iv cd, rv sB, iv r1, .unset] [(.int f1), (.int (0 : Int32))]) s1 EF := fun t k => pre167 t (by
       refine XS.iconst X167.here hx rfl (B at_135) ?_
       exact XS.iload X167.here hx rfl (B at_136) rfl k)
      by_cases hc138 : (0 : Int32) < f1
      · have pre181 : Go p e bl T167 (mkF m 158 #[iv p1, iv p2, iv p3, iv p4, iv p5, iv p6, iv (3 : Int32), iv f1, iv ca, iv cb, iv cc, iv cd, rv sB, iv r1, .unset] []) s1 EF := fun t k => pre180 t (XS.icmpYes X167.here hx rfl (pc0 := 138) (pc' := 158) rfl (B at_138) rfl (tlt hc138).1 (by decide) (by decide) k)
        exact ⟨_, _, r1, X167, N167, e167, (by unfold stepF; rw [if_pos hc138]), pre181⟩
      have pre182 : Go p e bl T167 (mkF m 141 #[iv p1, iv p2, iv p3, iv p4, iv p5, iv p6, iv (3 : Int32), iv f1, iv ca, iv cb, iv cc, iv cd, rv sB, iv r1, .unset] []) s1 EF := fun t k => pre180 t (XS.icmpNo X167.here hx rfl (B at_138) rfl (flt hc138).1 k)
      have pre183 : Go p e bl T167 (mkF m 144 #[iv p1, iv p2, iv p3, iv p4, iv p5, iv p6, iv (3 : Int32), iv f1, iv ca, iv cb, iv cc, iv cd, rv sB, iv r1, .unset] [(.int (3 : Int32)), (.int (0 : Int32))]) s1 EF := fun t k => pre182 t (by
       refine XS.iconst X167.here hx rfl (B at_141) ?_
       exact XS.iload X167.here hx rfl (B at_142) rfl k)
      have pre184 : Go p e bl T167 (mkF m 147 #[iv p1, iv p2, iv p3, iv p4, iv p5, iv p6, iv (3 : Int32), iv f1, iv ca, iv cb, iv cc, iv cd, rv sB, iv r1, .unset] []) s1 EF := fun t k => pre183 t (XS.icmpNo X167.here hx rfl (B at_144) rfl (tlt (by decide : (0 : Int32) < (3 : Int32))).2.1 k)
      have pre185 : Go p e bl T167 (mkF m 149 #[iv p1, iv p2, iv p3, iv p4, iv p5, iv p6, iv (3 : Int32), iv f1, iv ca, iv cb, iv cc, iv cd, rv sB, iv r1, .unset] [(.int ca)]) s1 EF := fun t k => pre184 t (by
       exact XS.iload X167.here hx rfl (B at_147) rfl k)
      obtain ⟨_, _, ⟨T186, L186, k186, n186⟩, -, X186, ⟨Lc186, hQ186, l186, y186, z186⟩, st186⟩ := Jvm.LawKit.callS X167 hx (y := mN21) hown0 (mvT hZ0 (hw _ (mW 53 rfl))) (mvT hZ0 (hw _ (mW 54 rfl))) (mvT hZ0 (hw _ (mW 4 rfl))) (mvT hZ0 (hw _ (mW 55 rfl))) (by decide) (backOf (W := 0) (rmE l Z a0 hw [] ca (expF ca) T145.heap n0 Z147 rfl) hZ0 (hw _ (mW 55 rfl)) (hw _ (mW 4 rfl)) (by decide) (by decide)) (g := (mkF m 149 #[iv p1, iv p2, iv p3, iv p4, iv p5, iv p6, iv (3 : Int32), iv f1, iv ca, iv cb, iv cc, iv cd, rv sB, iv r1, .unset] [(.int ca)])) rfl (hM rfl) (argsL := [(.int ca)]) (rest := []) (lenOf pd20 rfl) rfl (Nat.le_of_eq rfl) (B at_149) (fun _ _ => ⟨rfl, e167, wl rfl, wl rfl⟩)
      dsimp only [Pt.U, Pt.locs, Pt.cells, Pt.slots] at X186 l186 y186 z186 st186 hQ186
      subst l186 y186 z186
      obtain ⟨rfl, N186q, hq186⟩ := hQ186
      have N186 := Fr.app N167 N186q
      have pre187 : Go p e bl T186 (mkF m 152 #[iv p1, iv p2, iv p3, iv p4, iv p5, iv p6, iv (3 : Int32), iv f1, iv ca, iv cb, iv cc, iv cd, rv sB, iv r1, .unset] [(.int (expF ca))]) s1 EF := fun t k => pre185 t (st186 t k)
      have e186 : T186.heap = T145.heap := hq186
      by_cases hc152 : (expF ca) = (0 : Int32)
      · have pre188 : Go p e bl T186 (mkF m 155 #[iv p1, iv p2, iv p3, iv p4, iv p5, iv p6, iv (3 : Int32), iv f1, iv ca, iv cb, iv cc, iv cd, rv sB, iv r1, .unset] []) s1 EF := fun t k => pre187 t (XS.ifNo X186.here hx rfl (B at_152) rfl ((if0 _ _).trans (teq hc152).2) k)
        have pre189 : Go p e bl T186 (mkF m 158 #[iv p1, iv p2, iv p3, iv p4, iv p5, iv p6, iv (3 : Int32), iv f1, iv ca, iv cb, iv cc, iv cd, rv sB, iv (0 : Int32), .unset] []) s1 EF := fun t k => pre188 t (by
         refine XS.iconst X186.here hx rfl (B at_155) ?_
         exact XS.istore X186.here hx rfl (B at_156) rfl (l' := #[iv p1, iv p2, iv p3, iv p4, iv p5, iv p6, iv (3 : Int32), iv f1, iv ca, iv cb, iv cc, iv cd, rv sB, iv (0 : Int32), .unset]) rfl k)
        exact ⟨_, _, (0 : Int32), X186, N186, e186, (by unfold stepF; rw [if_neg hc138, if_pos hc152]), pre189⟩
      have pre190 : Go p e bl T186 (mkF m 158 #[iv p1, iv p2, iv p3, iv p4, iv p5, iv p6, iv (3 : Int32), iv f1, iv ca, iv cb, iv cc, iv cd, rv sB, iv r1, .unset] []) s1 EF := fun t k => pre187 t (XS.ifYes X186.here hx rfl (pc0 := 152) (pc' := 158) rfl (B at_152) rfl ((if0 _ _).trans (feq hc152).2) (by decide) (by decide) k)
      exact ⟨_, _, r1, X186, N186, e186, (by unfold stepF; rw [if_neg hc138, if_neg hc152]), pre190⟩
    obtain ⟨T191, LJ191, ex1, X191, N191, e191, hj191_0, pre191⟩ : ∃ (TJ : State) (LJ : List Loc) (ex1 : Int32), Stand p l e room_1 (s.setVm s.vm) m #[(.int p1), (.int p2), (.int p3), (.int p4), (.int p5), (.int p6)] bl meth c TJ LJ 4 16 ∧ Fr n0 LJ ∧ TJ.heap = T145.heap ∧ (ex1 = if f1 < (3 : Int32) then r0 else f1) ∧ Go p e bl TJ (mkF m 174 #[iv p1, iv p2, iv p3, iv p4, iv p5, iv p6, iv (3 : Int32), iv f1, iv ca, iv cb, iv cc, iv cd, rv sB, iv r0, iv ex1] []) s1 EF := by
      have pre192 : Go p e bl T179 (mkF m 162 #[iv p1, iv p2, iv p3, iv p4, iv p5, iv p6, iv (3 : Int32), iv f1, iv ca, iv cb, iv cc, iv cd, rv sB, iv r0, .unset] [(.int (3 : Int32)), (.int f1)]) s1 EF := fun t k => pre179 t (by
       refine XS.iload X179.here hx rfl (B at_158) rfl ?_
       exact XS.iload X179.here hx rfl (B at_160) rfl k)
      by_cases hc162 : f1 < (3 : Int32)
      · have pre193 : Go p e bl T179 (mkF m 170 #[iv p1, iv p2, iv p3, iv p4, iv p5, iv p6, iv (3 : Int32), iv f1, iv ca, iv cb, iv cc, iv cd, rv sB, iv r0, .unset] []) s1 EF := fun t k => pre192 t (XS.icmpYes X179.here hx rfl (pc0 := 162) (pc' := 170) rfl (B at_162) rfl (tlt hc162).1 (by decide) (by decide) k)
        have pre194 : Go p e bl T179 (mkF m 174 #[iv p1, iv p2, iv p3, iv p4, iv p5, iv p6, iv (3 : Int32), iv f1, iv ca, iv cb, iv cc, iv cd, rv sB, iv r0, iv r0] []) s1 EF := fun t k => pre193 t (by
         refine XS.iload X179.here hx rfl (B at_170) rfl ?_
         exact XS.istore X179.here hx rfl (B at_172) rfl (l' := #[iv p1, iv p2, iv p3, iv p4, iv p5, iv p6, iv (3 : Int32), iv f1, iv ca, iv cb, iv cc, iv cd, rv sB, iv r0, iv r0]) rfl k)
        exact ⟨_, _, r0, X179, N179, e179, (by rw [if_pos hc162]), pre194⟩
      have pre195 : Go p e bl T179 (mkF m 165 #[iv p1, iv p2, iv p3, iv p4, iv p5, iv p6, iv (3 : Int32), iv f1, iv ca, iv cb, iv cc, iv cd, rv sB, iv r0, .unset] []) s1 EF := fun t k => pre192 t (XS.icmpNo X179.here hx rfl (B at_162) rfl (flt hc162).1 k)
      have pre196 : Go p e bl T179 (mkF m 174 #[iv p1, iv p2, iv p3, iv p4, iv p5, iv p6, iv (3 : Int32), iv f1, iv ca, iv cb, iv cc, iv cd, rv sB, iv r0, iv f1] []) s1 EF := fun t k => pre195 t (by
       refine XS.iload X179.here hx rfl (B at_165) rfl ?_
       refine XS.goto X179.here hx rfl (pc0 := 167) (pc' := 172) rfl (B at_167) (by decide) (by decide) ?_
       exact XS.istore X179.here hx rfl (B at_172) rfl (l' := #[iv p1, iv p2, iv p3, iv p4, iv p5, iv p6, iv (3 : Int32), iv f1, iv ca, iv cb, iv cc, iv cd, rv sB, iv r0, iv f1]) rfl k)
      exact ⟨_, _, f1, X179, N179, e179, (by rw [if_neg hc162]), pre196⟩
    have pre197 : Go p e bl T191 (mkF m 178 #[iv p1, iv p2, iv p3, iv p4, iv p5, iv p6, iv (3 : Int32), iv f1, iv ca, iv cb, iv cc, iv cd, rv sB, iv r0, iv ex1] [(.int f1), (.ref sB)]) s1 EF := fun t k => pre191 t (by
     refine XS.aload X191.here hx rfl (B at_174) rfl rfl ?_
     exact XS.iload X191.here hx rfl (B at_176) rfl k)
    obtain ⟨_, _, ⟨T198, L198, k198, n198⟩, -, X198, ⟨Lc198, hQ198, l198, y198, z198⟩, st198⟩ := Jvm.LawKit.callS X191 hx (y := mN23) hown0 (mvT hZ0 (hw _ (mW 28 rfl))) (mvT hZ0 (hw _ (mW 29 rfl))) (mvT hZ0 (hw _ (mW 30 rfl))) (mvT hZ0 (hw _ (mW 31 rfl))) (by decide) (backOf (W := 0) (rmK3 l Z a0 hw [] sB f1 cz fv ta cl ca cb cc ex1 T145.heap n0 Z147 O147 J0 S0 TB HT SF145 hf1 (by rw [hj191_0, hj179_0, hj167_0, hj155_0])) hZ0 (hw _ (mW 31 rfl)) (hw _ (mW 30 rfl)) (by decide) (by decide)) (g := (mkF m 178 #[iv p1, iv p2, iv p3, iv p4, iv p5, iv p6, iv (3 : Int32), iv f1, iv ca, iv cb, iv cc, iv cd, rv sB, iv r0, iv ex1] [(.int f1), (.ref sB)])) rfl (hM rfl) (argsL := [(.ref sB), (.int f1)]) (rest := []) (lenOf pd19 rfl) rfl (Nat.le_of_eq rfl) (B at_178) (fun _ _ => ⟨rfl, e191, wl rfl, wl rfl⟩)
    dsimp only [Pt.U, Pt.locs, Pt.cells, Pt.slots] at X198 l198 y198 z198 st198 hQ198
    subst l198 y198 z198
    obtain ⟨rfl, N198q, hq198⟩ := hQ198
    have N198 := Fr.app N191 N198q
    have pre199 : Go p e bl T198 (mkF m 181 #[iv p1, iv p2, iv p3, iv p4, iv p5, iv p6, iv (3 : Int32), iv f1, iv ca, iv cb, iv cc, iv cd, rv sB, iv r0, iv ex1] [(.int ex1)]) s1 EF := fun t k => pre197 t (st198 t k)
    have e198 : T198.heap = T145.heap := hq198
    have pre200 : Go p e bl T198 (mkF m 183 #[iv p1, iv p2, iv p3, iv p4, iv p5, iv p6, iv (3 : Int32), iv f1, iv ca, iv cb, iv cc, iv cd, rv sB, iv r0, iv ex1] [(.int ex1), (.int ex1)]) s1 EF := fun t k => pre199 t (by
     exact XS.iload X198.here hx rfl (B at_181) rfl k)
    have pre201 : Go p e bl T198 (mkF m 186 #[iv p1, iv p2, iv p3, iv p4, iv p5, iv p6, iv (3 : Int32), iv f1, iv ca, iv cb, iv cc, iv cd, rv sB, iv r0, iv ex1] []) s1 EF := fun t k => pre200 t (XS.icmpNo X198.here hx rfl (B at_183) rfl (teq (rfl : ex1 = ex1)).2 k)
    have pre202 : Go p e bl T198 (mkF m 191 #[iv p1, iv p2, iv p3, iv p4, iv p5, iv p6, iv (3 : Int32), iv f1, iv ca, iv cb, iv cc, iv cd, rv sB, iv r0, iv ex1] [(.int (1 : Int32))]) s1 EF := fun t k => pre201 t (by
     refine XS.iconst X198.here hx rfl (B at_186) ?_
     exact XS.goto X198.here hx rfl (pc0 := 187) (pc' := 191) rfl (B at_187) (by decide) (by decide) k)
    have hnr : Value.int (nar .boolean (1 : Int32)) = (.int (1 : Int32)) := by rfl
    obtain ⟨fs, hr, hrun, hended, hend1, hend2, hend3, hsame⟩ := X198.leaveW hS0 (by rw [e198]; exact hk147) (v := some (.int (1 : Int32))) (fun h => by rw [Bd.returns] at h; cases h)
    have hCH : CHr Z [("java/lang/String", 7)] s.vm s.heap T198.vm T198.heap := by rw [hh, e198]; exact R147.trans (CHv.at X198 hZ0 (own_EW hw) C147)
    refine ⟨_, _, hEF ▸ pre202 _ (retN X198 hx (t := .boolean) Bd.returns (by simp) (B at_191) (hnr ▸ hr)), hrun, hended, _, _, rfl, ?_, hCH, hend1, hend2, hend3, hsame.mono (by decide) (by decide)⟩
    show QL Z p1 p2 p3 p4 p5 p6 cz fv ta cl h0 n0 _ T198.heap _
    rw [e198]
    exact ⟨rfl, N198⟩
  subst hv2_4
  have pre203 : Go p e bl s1 (mkF m 57 #[iv p1, iv p2, iv p3, iv p4, iv p5, iv p6, iv (4 : Int32), iv f1, iv ca, iv cb, iv cc, iv cd, .unset, .unset, .unset] [(.int cd), (.int cc), (.int cb), (.int ca), (.int (4 : Int32))]) s1 EF := fun t k => pre1 t (by
   refine XS.iload X0.here hx rfl (B at_47) rfl ?_
   refine XS.iload X0.here hx rfl (B at_49) rfl ?_
   refine XS.iload X0.here hx rfl (B at_51) rfl ?_
   refine XS.iload X0.here hx rfl (B at_53) rfl ?_
   exact XS.iload X0.here hx rfl (B at_55) rfl k)
  obtain ⟨_, _, ⟨T204, L204, k204, n204⟩, -, X204, ⟨Lc204, hQ204, l204, y204, z204⟩, st204⟩ := Jvm.LawKit.callS X0 hx (y := mN22) hown0 (mvT hZ0 (hw _ (mW 2 rfl))) (mvT hZ0 (hw _ (mW 3 rfl))) (mvT hZ0 (hw _ (mW 4 rfl))) (mvT hZ0 (hw _ (mW 5 rfl))) (by decide) (backOf (W := 0) (rmB4 l Z a0 hw [] ca cb cc cd cz fv  h0 n0 Z0 O0 J0 rca rcb rcc rcd) hZ0 (hw _ (mW 5 rfl)) (hw _ (mW 4 rfl)) (by decide) (by decide)) (g := (mkF m 57 #[iv p1, iv p2, iv p3, iv p4, iv p5, iv p6, iv (4 : Int32), iv f1, iv ca, iv cb, iv cc, iv cd, .unset, .unset, .unset] [(.int cd), (.int cc), (.int cb), (.int ca), (.int (4 : Int32))])) rfl (hM rfl) (argsL := [(.int (4 : Int32)), (.int ca), (.int cb), (.int cc), (.int cd)]) (rest := []) (lenOf pd18 rfl) rfl (Nat.le_of_eq rfl) (B at_57) (fun _ _ => ⟨rfl, e0, wl rfl, wl rfl⟩)
  dsimp only [Pt.U, Pt.locs, Pt.cells, Pt.slots] at X204 l204 y204 z204 st204 hQ204
  subst l204 y204 z204
  obtain ⟨sB, rfl, N204q, K204, SF204⟩ := hQ204
  have N204 := Fr.app N0 N204q
  have pre205 : Go p e bl T204 (mkF m 60 #[iv p1, iv p2, iv p3, iv p4, iv p5, iv p6, iv (4 : Int32), iv f1, iv ca, iv cb, iv cc, iv cd, .unset, .unset, .unset] [(.ref sB)]) s1 EF := fun t k => pre203 t (st204 t k)
  have O206 : Old Z n0 T204.heap := O0.keep K204 all0
  have Z206 : n0 ≤ T204.heap.size := Nat.le_trans Z0 K204.1
  have hk206 := Nat.le_trans hk0 K204.1
  have C206 := CHv.keep K204 sf0 hC
  have R206 := (CHr.refl hC).trans (CHr.keep K204 sf0 hC)
  have pre207 : Go p e bl T204 (mkF m 66 #[iv p1, iv p2, iv p3, iv p4, iv p5, iv p6, iv (4 : Int32), iv f1, iv ca, iv cb, iv cc, iv cd, rv sB, iv (4 : Int32), .unset] []) s1 EF := fun t k => pre205 t (by
   refine XS.astore X204.here hx rfl (B at_60) rfl rfl (l' := #[iv p1, iv p2, iv p3, iv p4, iv p5, iv p6, iv (4 : Int32), iv f1, iv ca, iv cb, iv cc, iv cd, rv sB, .unset, .unset]) rfl ?_
   refine XS.iload X204.here hx rfl (B at_62) rfl ?_
   exact XS.istore X204.here hx rfl (B at_64) rfl (l' := #[iv p1, iv p2, iv p3, iv p4, iv p5, iv p6, iv (4 : Int32), iv f1, iv ca, iv cb, iv cc, iv cd, rv sB, iv (4 : Int32), .unset]) rfl k)
  obtain ⟨T208, LJ208, r3, X208, N208, e208, hj208_0, pre208⟩ : ∃ (TJ : State) (LJ : List Loc) (r3 : Int32), Stand p l e room_1 (s.setVm s.vm) m #[(.int p1), (.int p2), (.int p3), (.int p4), (.int p5), (.int p6)] bl meth c TJ LJ 4 20 ∧ Fr n0 LJ ∧ TJ.heap = T204.heap ∧ (r3 = stepF 3 f1 cd (4 : Int32)) ∧ Go p e bl TJ (mkF m 89 #[iv p1, iv p2, iv p3, iv p4, iv p5, iv p6, iv (4 : Int32), iv f1, iv ca, iv cb, iv cc, iv cd, rv sB, iv r3, .unset] []) s1 EF := by
    have pre209 : Go p e bl T204 (mkF m 69 #[iv p1, iv p2, iv p3, iv p4, iv p5, iv p6, iv (4 : Int32), iv f1, iv ca, iv cb, iv cc, iv cd, rv sB, iv (4 : Int32), .unset] [(.int f1), (.int (3 : Int32))]) s1 EF := fun t k => pre207 t (by
     refine XS.iconst X204.here hx rfl (B at_66) ?_
     exact XS.iload X204.here hx rfl (B at_67) rfl k)
    by_cases hc69 : (3 : Int32) < f1
    · have pre210 : Go p e bl T204 (mkF m 89 #[iv p1, iv p2, iv p3, iv p4, iv p5, iv p6, iv (4 : Int32), iv f1, iv ca, iv cb, iv cc, iv cd, rv sB, iv (4 : Int32), .unset] []) s1 EF := fun t k => pre209 t (XS.icmpYes X204.here hx rfl (pc0 := 69) (pc' := 89) rfl (B at_69) rfl (tlt hc69).1 (by decide) (by decide) k)
      exact ⟨_, _, (4 : Int32), X204, N204, rfl, (by unfold stepF; rw [if_pos hc69]), pre210⟩
    have pre211 : Go p e bl T204 (mkF m 72 #[iv p1, iv p2, iv p3, iv p4, iv p5, iv p6, iv (4 : Int32), iv f1, iv ca, iv cb, iv cc, iv cd, rv sB, iv (4 : Int32), .unset] []) s1 EF := fun t k => pre209 t (XS.icmpNo X204.here hx rfl (B at_69) rfl (flt hc69).1 k)
    have pre212 : Go p e bl T204 (mkF m 75 #[iv p1, iv p2, iv p3, iv p4, iv p5, iv p6, iv (4 : Int32), iv f1, iv ca, iv cb, iv cc, iv cd, rv sB, iv (4 : Int32), .unset] [(.int (4 : Int32)), (.int (3 : Int32))]) s1 EF := fun t k => pre211 t (by
     refine XS.iconst X204.here hx rfl (B at_72) ?_
     exact XS.iload X204.here hx rfl (B at_73) rfl k)
    have pre213 : Go p e bl T204 (mkF m 78 #[iv p1, iv p2, iv p3, iv p4, iv p5, iv p6, iv (4 : Int32), iv f1, iv ca, iv cb, iv cc, iv cd, rv sB, iv (4 : Int32), .unset] []) s1 EF := fun t k => pre212 t (XS.icmpNo X204.here hx rfl (B at_75) rfl (tlt (by decide : (3 : Int32) < (4 : Int32))).2.1 k)
    have pre214 : Go p e bl T204 (mkF m 80 #[iv p1, iv p2, iv p3, iv p4, iv p5, iv p6, iv (4 : Int32), iv f1, iv ca, iv cb, iv cc, iv cd, rv sB, iv (4 : Int32), .unset] [(.int cd)]) s1 EF := fun t k => pre213 t (by
     exact XS.iload X204.here hx rfl (B at_78) rfl k)
    obtain ⟨_, _, ⟨T215, L215, k215, n215⟩, -, X215, ⟨Lc215, hQ215, l215, y215, z215⟩, st215⟩ := Jvm.LawKit.callS X204 hx (y := mN21) hown0 (mvT hZ0 (hw _ (mW 53 rfl))) (mvT hZ0 (hw _ (mW 54 rfl))) (mvT hZ0 (hw _ (mW 4 rfl))) (mvT hZ0 (hw _ (mW 55 rfl))) (by decide) (backOf (W := 0) (rmE l Z a0 hw [] cd (expF cd) T204.heap n0 Z206 rfl) hZ0 (hw _ (mW 55 rfl)) (hw _ (mW 4 rfl)) (by decide) (by decide)) (g := (mkF m 80 #[iv p1, iv p2, iv p3, iv p4, iv p5, iv p6, iv (4 : Int32), iv f1, iv ca, iv cb, iv cc, iv cd, rv sB, iv (4 : Int32), .unset] [(.int cd)])) rfl (hM rfl) (argsL := [(.int cd)]) (rest := []) (lenOf pd20 rfl) rfl (Nat.le_of_eq rfl) (B at_80) (fun _ _ => ⟨rfl, rfl, wl rfl, wl rfl⟩)
    dsimp only [Pt.U, Pt.locs, Pt.cells, Pt.slots] at X215 l215 y215 z215 st215 hQ215
    subst l215 y215 z215
    obtain ⟨rfl, N215q, hq215⟩ := hQ215
    have N215 := Fr.app N204 N215q
    have pre216 : Go p e bl T215 (mkF m 83 #[iv p1, iv p2, iv p3, iv p4, iv p5, iv p6, iv (4 : Int32), iv f1, iv ca, iv cb, iv cc, iv cd, rv sB, iv (4 : Int32), .unset] [(.int (expF cd))]) s1 EF := fun t k => pre214 t (st215 t k)
    have e215 : T215.heap = T204.heap := hq215
    by_cases hc83 : (expF cd) = (0 : Int32)
    · have pre217 : Go p e bl T215 (mkF m 86 #[iv p1, iv p2, iv p3, iv p4, iv p5, iv p6, iv (4 : Int32), iv f1, iv ca, iv cb, iv cc, iv cd, rv sB, iv (4 : Int32), .unset] []) s1 EF := fun t k => pre216 t (XS.ifNo X215.here hx rfl (B at_83) rfl ((if0 _ _).trans (teq hc83).2) k)
      have pre218 : Go p e bl T215 (mkF m 89 #[iv p1, iv p2, iv p3, iv p4, iv p5, iv p6, iv (4 : Int32), iv f1, iv ca, iv cb, iv cc, iv cd, rv sB, iv (3 : Int32), .unset] []) s1 EF := fun t k => pre217 t (by
       refine XS.iconst X215.here hx rfl (B at_86) ?_
       exact XS.istore X215.here hx rfl (B at_87) rfl (l' := #[iv p1, iv p2, iv p3, iv p4, iv p5, iv p6, iv (4 : Int32), iv f1, iv ca, iv cb, iv cc, iv cd, rv sB, iv (3 : Int32), .unset]) rfl k)
      exact ⟨_, _, (3 : Int32), X215, N215, e215, (by unfold stepF; rw [if_neg hc69, if_pos hc83]), pre218⟩
    have pre219 : Go p e bl T215 (mkF m 89 #[iv p1, iv p2, iv p3, iv p4, iv p5, iv p6, iv (4 : Int32), iv f1, iv ca, iv cb, iv cc, iv cd, rv sB, iv (4 : Int32), .unset] []) s1 EF := fun t k => pre216 t (XS.ifYes X215.here hx rfl (pc0 := 83) (pc' := 89) rfl (B at_83) rfl ((if0 _ _).trans (feq hc83).2) (by decide) (by decide) k)
    exact ⟨_, _, (4 : Int32), X215, N215, e215, (by unfold stepF; rw [if_neg hc69, if_neg hc83]), pre219⟩
  obtain ⟨T220, LJ220, r2, X220, N220, e220, hj220_0, pre220⟩ : ∃ (TJ : State) (LJ : List Loc) (r2 : Int32), Stand p l e room_1 (s.setVm s.vm) m #[(.int p1), (.int p2), (.int p3), (.int p4), (.int p5), (.int p6)] bl meth c TJ LJ 4 20 ∧ Fr n0 LJ ∧ TJ.heap = T204.heap ∧ (r2 = stepF 2 f1 cc r3) ∧ Go p e bl TJ (mkF m 112 #[iv p1, iv p2, iv p3, iv p4, iv p5, iv p6, iv (4 : Int32), iv f1, iv ca, iv cb, iv cc, iv cd, rv sB, iv r2, .unset] []) s1 EF := by
    have pre221 : Go p e bl T208 (mkF m 92 #[iv p1, iv p2, iv p3, iv p4, iv p5, iv p6, iv (4 : Int32), iv f1, iv ca, iv cb, iv cc, iv cd, rv sB, iv r3, .unset] [(.int f1), (.int (2 : Int32))]) s1 EF := fun t k => pre208 t (by
     refine XS.iconst X208.here hx rfl (B at_89) ?_
     exact XS.iload X208.here hx rfl (B at_90) rfl k)
    by_cases hc92 : (2 : Int32) < f1
    · have pre222 : Go p e bl T208 (mkF m 112 #[iv p1, iv p2, iv p3, iv p4, iv p5, iv p6, iv (4 : Int32), iv f1, iv ca, iv cb, iv cc, iv cd, rv sB, iv r3, .unset] []) s1 EF := fun t k => pre221 t (XS.icmpYes X208.here hx rfl (pc0 := 92) (pc' := 112) rfl (B at_92) rfl (tlt hc92).1 (by decide) (by decide) k)
      exact ⟨_, _, r3, X208, N208, e208, (by unfold stepF; rw [if_pos hc92]), pre222⟩
    have pre223 : Go p e bl T208 (mkF m 95 #[iv p1, iv p2, iv p3, iv p4, iv p5, iv p6, iv (4 : Int32), iv f1, iv ca, iv cb, iv cc, iv cd, rv sB, iv r3, .unset] []) s1 EF := fun t k => pre221 t (XS.icmpNo X208.here hx rfl (B at_92) rfl (flt hc92).1 k)
    have pre224 : Go p e bl T208 (mkF m 98 #[iv p1, iv p2, iv p3, iv p4, iv p5, iv p6, iv (4 : Int32), iv f1, iv ca, iv cb, iv cc, iv cd, rv sB, iv r3, .unset] [(.int (4 : Int32)), (.int (2 : Int32))]) s1 EF := fun t k => pre223 t (by
     refine XS.iconst X208.here hx rfl (B at_95) ?_
     exact XS.iload X208.here hx rfl (B at_96) rfl k)
    have pre225 : Go p e bl T208 (mkF m 101 #[iv p1, iv p2, iv p3, iv p4, iv p5, iv p6, iv (4 : Int32), iv f1, iv ca, iv cb, iv cc, iv cd, rv sB, iv r3, .unset] []) s1 EF := fun t k => pre224 t (XS.icmpNo X208.here hx rfl (B at_98) rfl (tlt (by decide : (2 : Int32) < (4 : Int32))).2.1 k)
    have pre226 : Go p e bl T208 (mkF m 103 #[iv p1, iv p2, iv p3, iv p4, iv p5, iv p6, iv (4 : Int32), iv f1, iv ca, iv cb, iv cc, iv cd, rv sB, iv r3, .unset] [(.int cc)]) s1 EF := fun t k => pre225 t (by
     exact XS.iload X208.here hx rfl (B at_101) rfl k)
    obtain ⟨_, _, ⟨T227, L227, k227, n227⟩, -, X227, ⟨Lc227, hQ227, l227, y227, z227⟩, st227⟩ := Jvm.LawKit.callS X208 hx (y := mN21) hown0 (mvT hZ0 (hw _ (mW 53 rfl))) (mvT hZ0 (hw _ (mW 54 rfl))) (mvT hZ0 (hw _ (mW 4 rfl))) (mvT hZ0 (hw _ (mW 55 rfl))) (by decide) (backOf (W := 0) (rmE l Z a0 hw [] cc (expF cc) T204.heap n0 Z206 rfl) hZ0 (hw _ (mW 55 rfl)) (hw _ (mW 4 rfl)) (by decide) (by decide)) (g := (mkF m 103 #[iv p1, iv p2, iv p3, iv p4, iv p5, iv p6, iv (4 : Int32), iv f1, iv ca, iv cb, iv cc, iv cd, rv sB, iv r3, .unset] [(.int cc)])) rfl (hM rfl) (argsL := [(.int cc)]) (rest := []) (lenOf pd20 rfl) rfl (Nat.le_of_eq rfl) (B at_103) (fun _ _ => ⟨rfl, e208, wl rfl, wl rfl⟩)
    dsimp only [Pt.U, Pt.locs, Pt.cells, Pt.slots] at X227 l227 y227 z227 st227 hQ227
    subst l227 y227 z227
    obtain ⟨rfl, N227q, hq227⟩ := hQ227
    have N227 := Fr.app N208 N227q
    have pre228 : Go p e bl T227 (mkF m 106 #[iv p1, iv p2, iv p3, iv p4, iv p5, iv p6, iv (4 : Int32), iv f1, iv ca, iv cb, iv cc, iv cd, rv sB, iv r3, .unset] [(.int (expF cc))]) s1 EF := fun t k => pre226 t (st227 t k)
    have e227 : T227.heap = T204.heap := hq227
    by_cases hc106 : (expF cc) = (0 : Int32)
    · have pre229 : Go p e bl T227 (mkF m 109 #[iv p1, iv p2, iv p3, iv p4, iv p5, iv p6, iv (4 : Int32), iv f1, iv ca, iv cb, iv cc, iv cd, rv sB, iv r3, .unset] []) s1 EF := fun t k => pre228 t (XS.ifNo X227.here hx rfl (B at_106) rfl ((if0 _ _).trans (teq hc106).2) k)
      have pre230 : Go p e bl T227 (mkF m 112 #[iv p1, iv p2, iv p3, iv p4, iv p5, iv p6, iv (4 : Int32), iv f1, iv ca, iv cb, iv cc, iv cd, rv sB, iv (2 : Int32), .unset] []) s1 EF := fun t k => pre229 t (by
       refine XS.iconst X227.here hx rfl (B at_109) ?_
       exact XS.istore X227.here hx rfl (B at_110) rfl (l' := #[iv p1, iv p2, iv p3, iv p4, iv p5, iv p6, iv (4 : Int32), iv f1, iv ca, iv cb, iv cc, iv cd, rv sB, iv (2 : Int32), .unset]) rfl k)
      exact ⟨_, _, (2 : Int32), X227, N227, e227, (by unfold stepF; rw [if_neg hc92, if_pos hc106]), pre230⟩
    have pre231 : Go p e bl T227 (mkF m 112 #[iv p1, iv p2, iv p3, iv p4, iv p5, iv p6, iv (4 : Int32), iv f1, iv ca, iv cb, iv cc, iv cd, rv sB, iv r3, .unset] []) s1 EF := fun t k => pre228 t (XS.ifYes X227.here hx rfl (pc0 := 106) (pc' := 112) rfl (B at_106) rfl ((if0 _ _).trans (feq hc106).2) (by decide) (by decide) k)
    exact ⟨_, _, r3, X227, N227, e227, (by unfold stepF; rw [if_neg hc92, if_neg hc106]), pre231⟩
  obtain ⟨T232, LJ232, r1, X232, N232, e232, hj232_0, pre232⟩ : ∃ (TJ : State) (LJ : List Loc) (r1 : Int32), Stand p l e room_1 (s.setVm s.vm) m #[(.int p1), (.int p2), (.int p3), (.int p4), (.int p5), (.int p6)] bl meth c TJ LJ 4 20 ∧ Fr n0 LJ ∧ TJ.heap = T204.heap ∧ (r1 = stepF 1 f1 cb r2) ∧ Go p e bl TJ (mkF m 135 #[iv p1, iv p2, iv p3, iv p4, iv p5, iv p6, iv (4 : Int32), iv f1, iv ca, iv cb, iv cc, iv cd, rv sB, iv r1, .unset] []) s1 EF := by
    have pre233 : Go p e bl T220 (mkF m 115 #[iv p1, iv p2, iv p3, iv p4, iv p5, iv p6, iv (4 : Int32), iv f1, iv ca, iv cb, iv cc, iv cd, rv sB, iv r2, .unset] [(.int f1), (.int (1 : Int32))]) s1 EF := fun t k => pre220 t (by
     refine XS.iconst X220.here hx rfl (B at_112) ?_
     exact XS.iload X220.here hx rfl (B at_113) rfl k)
    by_cases hc115 : (1 : Int32) < f1
    · have pre234 : Go p e bl T220 (mkF m 135 #[iv p1, iv p2, iv p3, iv p4, iv p5, iv p6, iv (4 : Int32), iv f1, iv ca, iv cb, iv cc, iv cd, rv sB, iv r2, .unset] []) s1 EF := fun t k => pre233 t (XS.icmpYes X220.here hx rfl (pc0 := 115) (pc' := 135) rfl (B at_115) rfl (tlt hc115).1 (by decide) (by decide) k)
      exact ⟨_, _, r2, X220, N220, e220, (by unfold stepF; rw [if_pos hc115]), pre234⟩
    have pre235 : Go p e bl T220 (mkF m 118 #[iv p1, iv p2, iv p3, iv p4, iv p5, iv p6, iv (4 : Int32), iv f1, iv ca, iv cb, iv cc, iv cd, rv sB, iv r2, .unset] []) s1 EF := fun t k => pre233 t (XS.icmpNo X220.here hx rfl (B at_115) rfl (flt hc115).1 k)
    have pre236 : Go p e bl T220 (mkF m 121 #[iv p1, iv p2, iv p3, iv p4, iv p5, iv p6, iv (4 : Int32), iv f1, iv ca, iv cb, iv cc, iv cd, rv sB, iv r2, .unset] [(.int (4 : Int32)), (.int (1 : Int32))]) s1 EF := fun t k => pre235 t (by
     refine XS.iconst X220.here hx rfl (B at_118) ?_
     exact XS.iload X220.here hx rfl (B at_119) rfl k)
    have pre237 : Go p e bl T220 (mkF m 124 #[iv p1, iv p2, iv p3, iv p4, iv p5, iv p6, iv (4 : Int32), iv f1, iv ca, iv cb, iv cc, iv cd, rv sB, iv r2, .unset] []) s1 EF := fun t k => pre236 t (XS.icmpNo X220.here hx rfl (B at_121) rfl (tlt (by decide : (1 : Int32) < (4 : Int32))).2.1 k)
    have pre238 : Go p e bl T220 (mkF m 126 #[iv p1, iv p2, iv p3, iv p4, iv p5, iv p6, iv (4 : Int32), iv f1, iv ca, iv cb, iv cc, iv cd, rv sB, iv r2, .unset] [(.int cb)]) s1 EF := fun t k => pre237 t (by
     exact XS.iload X220.here hx rfl (B at_124) rfl k)
    obtain ⟨_, _, ⟨T239, L239, k239, n239⟩, -, X239, ⟨Lc239, hQ239, l239, y239, z239⟩, st239⟩ := Jvm.LawKit.callS X220 hx (y := mN21) hown0 (mvT hZ0 (hw _ (mW 53 rfl))) (mvT hZ0 (hw _ (mW 54 rfl))) (mvT hZ0 (hw _ (mW 4 rfl))) (mvT hZ0 (hw _ (mW 55 rfl))) (by decide) (backOf (W := 0) (rmE l Z a0 hw [] cb (expF cb) T204.heap n0 Z206 rfl) hZ0 (hw _ (mW 55 rfl)) (hw _ (mW 4 rfl)) (by decide) (by decide)) (g := (mkF m 126 #[iv p1, iv p2, iv p3, iv p4, iv p5, iv p6, iv (4 : Int32), iv f1, iv ca, iv cb, iv cc, iv cd, rv sB, iv r2, .unset] [(.int cb)])) rfl (hM rfl) (argsL := [(.int cb)]) (rest := []) (lenOf pd20 rfl) rfl (Nat.le_of_eq rfl) (B at_126) (fun _ _ => ⟨rfl, e220, wl rfl, wl rfl⟩)
    dsimp only [Pt.U, Pt.locs, Pt.cells, Pt.slots] at X239 l239 y239 z239 st239 hQ239
    subst l239 y239 z239
    obtain ⟨rfl, N239q, hq239⟩ := hQ239
    have N239 := Fr.app N220 N239q
    have pre240 : Go p e bl T239 (mkF m 129 #[iv p1, iv p2, iv p3, iv p4, iv p5, iv p6, iv (4 : Int32), iv f1, iv ca, iv cb, iv cc, iv cd, rv sB, iv r2, .unset] [(.int (expF cb))]) s1 EF := fun t k => pre238 t (st239 t k)
    have e239 : T239.heap = T204.heap := hq239
    by_cases hc129 : (expF cb) = (0 : Int32)
    · have pre241 : Go p e bl T239 (mkF m 132 #[iv p1, iv p2, iv p3, iv p4, iv p5, iv p6, iv (4 : Int32), iv f1, iv ca, iv cb, iv cc, iv cd, rv sB, iv r2, .unset] []) s1 EF := fun t k => pre240 t (XS.ifNo X239.here hx rfl (B at_129) rfl ((if0 _ _).trans (teq hc129).2) k)
      have pre242 : Go p e bl T239 (mkF m 135 #[iv p1, iv p2, iv p3, iv p4, iv p5, iv p6, iv (4 : Int32), iv f1, iv ca, iv cb, iv cc, iv cd, rv sB, iv (1 : Int32), .unset] []) s1 EF := fun t k => pre241 t (by
       refine XS.iconst X239.here hx rfl (B at_132) ?_
       exact XS.istore X239.here hx rfl (B at_133) rfl (l' := #[iv p1, iv p2, iv p3, iv p4, iv p5, iv p6, iv (4 : Int32), iv f1, iv ca, iv cb, iv cc, iv cd, rv sB, iv (1 : Int32), .unset]) rfl k)
      exact ⟨_, _, (1 : Int32), X239, N239, e239, (by unfold stepF; rw [if_neg hc115, if_pos hc129]), pre242⟩
    have pre243 : Go p e bl T239 (mkF m 135 #[iv p1, iv p2, iv p3, iv p4, iv p5, iv p6, iv (4 : Int32), iv f1, iv ca, iv cb, iv cc, iv cd, rv sB, iv r2, .unset] []) s1 EF := fun t k => pre240 t (XS.ifYes X239.here hx rfl (pc0 := 129) (pc' := 135) rfl (B at_129) rfl ((if0 _ _).trans (feq hc129).2) (by decide) (by decide) k)
    exact ⟨_, _, r2, X239, N239, e239, (by unfold stepF; rw [if_neg hc115, if_neg hc129]), pre243⟩
  obtain ⟨T244, LJ244, r0, X244, N244, e244, hj244_0, pre244⟩ : ∃ (TJ : State) (LJ : List Loc) (r0 : Int32), Stand p l e room_1 (s.setVm s.vm) m #[(.int p1), (.int p2), (.int p3), (.int p4), (.int p5), (.int p6)] bl meth c TJ LJ 4 20 ∧ Fr n0 LJ ∧ TJ.heap = T204.heap ∧ (r0 = stepF 0 f1 ca r1) ∧ Go p e bl TJ (mkF m 158 #[iv p1, iv p2, iv p3, iv p4, iv p5, iv p6, iv (4 : Int32), iv f1, iv ca, iv cb, iv cc, iv cd, rv sB, iv r0, .unset] []) s1 EF := by
    have pre245 : Go p e bl T232 (mkF m 138 #[iv p1, iv p2, iv p3, iv p4, iv p5, iv p6, iv (4 : Int32), iv f1, iv ca, iv cb, iv cc, iv cd, rv sB, iv r1, .unset] [(.int f1), (.int (0 : Int32))]) s1 EF := fun t k => pre232 t (by
     refine XS.iconst X232.here hx rfl (B at_135) ?_
     exact XS.iload X232.here hx rfl (B at_136) rfl k)
    by_cases hc138 : (0 : Int32) < f1
    · have pre246 : Go p e bl T232 (mkF m 158 #[iv p1, iv p2, iv p3, iv p4, iv p5, iv p6, iv (4 : Int32), iv f1, iv ca, iv cb, iv cc, iv cd, rv sB, iv r1, .unset] []) s1 EF := fun t k => pre245 t (XS.icmpYes X232.here hx rfl (pc0 := 138) (pc' := 158) rfl (B at_138) rfl (tlt hc138).1 (by decide) (by decide) k)
      exact ⟨_, _, r1, X232, N232, e232, (by unfold stepF; rw [if_pos hc138]), pre246⟩
    have pre247 : Go p e bl T232 (mkF m 141 #[iv p1, iv p2, iv p3, iv p4, iv p5, iv p6, iv (4 : Int32), iv f1, iv ca, iv cb, iv cc, iv cd, rv sB, iv r1, .unset] []) s1 EF := fun t k => pre245 t (XS.icmpNo X232.here hx rfl (B at_138) rfl (flt hc138).1 k)
    have pre248 : Go p e bl T232 (mkF m 144 #[iv p1, iv p2, iv p3, iv p4, iv p5, iv p6, iv (4 : Int32), iv f1, iv ca, iv cb, iv cc, iv cd, rv sB, iv r1, .unset] [(.int (4 : Int32)), (.int (0 : Int32))]) s1 EF := fun t k => pre247 t (by
     refine XS.iconst X232.here hx rfl (B at_141) ?_
     exact XS.iload X232.here hx rfl (B at_142) rfl k)
    have pre249 : Go p e bl T232 (mkF m 147 #[iv p1, iv p2, iv p3, iv p4, iv p5, iv p6, iv (4 : Int32), iv f1, iv ca, iv cb, iv cc, iv cd, rv sB, iv r1, .unset] []) s1 EF := fun t k => pre248 t (XS.icmpNo X232.here hx rfl (B at_144) rfl (tlt (by decide : (0 : Int32) < (4 : Int32))).2.1 k)
    have pre250 : Go p e bl T232 (mkF m 149 #[iv p1, iv p2, iv p3, iv p4, iv p5, iv p6, iv (4 : Int32), iv f1, iv ca, iv cb, iv cc, iv cd, rv sB, iv r1, .unset] [(.int ca)]) s1 EF := fun t k => pre249 t (by
     exact XS.iload X232.here hx rfl (B at_147) rfl k)
    obtain ⟨_, _, ⟨T251, L251, k251, n251⟩, -, X251, ⟨Lc251, hQ251, l251, y251, z251⟩, st251⟩ := Jvm.LawKit.callS X232 hx (y := mN21) hown0 (mvT hZ0 (hw _ (mW 53 rfl))) (mvT hZ0 (hw _ (mW 54 rfl))) (mvT hZ0 (hw _ (mW 4 rfl))) (mvT hZ0 (hw _ (mW 55 rfl))) (by decide) (backOf (W := 0) (rmE l Z a0 hw [] ca (expF ca) T204.heap n0 Z206 rfl) hZ0 (hw _ (mW 55 rfl)) (hw _ (mW 4 rfl)) (by decide) (by decide)) (g := (mkF m 149 #[iv p1, iv p2, iv p3, iv p4, iv p5, iv p6, iv (4 : Int32), iv f1, iv ca, iv cb, iv cc, iv cd, rv sB, iv r1, .unset] [(.int ca)])) rfl (hM rfl) (argsL := [(.int ca)]) (rest := []) (lenOf pd20 rfl) rfl (Nat.le_of_eq rfl) (B at_149) (fun _ _ => ⟨rfl, e232, wl rfl, wl rfl⟩)
    dsimp only [Pt.U, Pt.locs, Pt.cells, Pt.slots] at X251 l251 y251 z251 st251 hQ251
    subst l251 y251 z251
    obtain ⟨rfl, N251q, hq251⟩ := hQ251
    have N251 := Fr.app N232 N251q
    have pre252 : Go p e bl T251 (mkF m 152 #[iv p1, iv p2, iv p3, iv p4, iv p5, iv p6, iv (4 : Int32), iv f1, iv ca, iv cb, iv cc, iv cd, rv sB, iv r1, .unset] [(.int (expF ca))]) s1 EF := fun t k => pre250 t (st251 t k)
    have e251 : T251.heap = T204.heap := hq251
    by_cases hc152 : (expF ca) = (0 : Int32)
    · have pre253 : Go p e bl T251 (mkF m 155 #[iv p1, iv p2, iv p3, iv p4, iv p5, iv p6, iv (4 : Int32), iv f1, iv ca, iv cb, iv cc, iv cd, rv sB, iv r1, .unset] []) s1 EF := fun t k => pre252 t (XS.ifNo X251.here hx rfl (B at_152) rfl ((if0 _ _).trans (teq hc152).2) k)
      have pre254 : Go p e bl T251 (mkF m 158 #[iv p1, iv p2, iv p3, iv p4, iv p5, iv p6, iv (4 : Int32), iv f1, iv ca, iv cb, iv cc, iv cd, rv sB, iv (0 : Int32), .unset] []) s1 EF := fun t k => pre253 t (by
       refine XS.iconst X251.here hx rfl (B at_155) ?_
       exact XS.istore X251.here hx rfl (B at_156) rfl (l' := #[iv p1, iv p2, iv p3, iv p4, iv p5, iv p6, iv (4 : Int32), iv f1, iv ca, iv cb, iv cc, iv cd, rv sB, iv (0 : Int32), .unset]) rfl k)
      exact ⟨_, _, (0 : Int32), X251, N251, e251, (by unfold stepF; rw [if_neg hc138, if_pos hc152]), pre254⟩
    have pre255 : Go p e bl T251 (mkF m 158 #[iv p1, iv p2, iv p3, iv p4, iv p5, iv p6, iv (4 : Int32), iv f1, iv ca, iv cb, iv cc, iv cd, rv sB, iv r1, .unset] []) s1 EF := fun t k => pre252 t (XS.ifYes X251.here hx rfl (pc0 := 152) (pc' := 158) rfl (B at_152) rfl ((if0 _ _).trans (feq hc152).2) (by decide) (by decide) k)
    exact ⟨_, _, r1, X251, N251, e251, (by unfold stepF; rw [if_neg hc138, if_neg hc152]), pre255⟩
  obtain ⟨T256, LJ256, ex1, X256, N256, e256, hj256_0, pre256⟩ : ∃ (TJ : State) (LJ : List Loc) (ex1 : Int32), Stand p l e room_1 (s.setVm s.vm) m #[(.int p1), (.int p2), (.int p3), (.int p4), (.int p5), (.int p6)] bl meth c TJ LJ 4 20 ∧ Fr n0 LJ ∧ TJ.heap = T204.heap ∧ (ex1 = if f1 < (4 : Int32) then r0 else f1) ∧ Go p e bl TJ (mkF m 174 #[iv p1, iv p2, iv p3, iv p4, iv p5, iv p6, iv (4 : Int32), iv f1, iv ca, iv cb, iv cc, iv cd, rv sB, iv r0, iv ex1] []) s1 EF := by
    have pre257 : Go p e bl T244 (mkF m 162 #[iv p1, iv p2, iv p3, iv p4, iv p5, iv p6, iv (4 : Int32), iv f1, iv ca, iv cb, iv cc, iv cd, rv sB, iv r0, .unset] [(.int (4 : Int32)), (.int f1)]) s1 EF := fun t k => pre244 t (by
     refine XS.iload X244.here hx rfl (B at_158) rfl ?_
     exact XS.iload X244.here hx rfl (B at_160) rfl k)
    by_cases hc162 : f1 < (4 : Int32)
    · have pre258 : Go p e bl T244 (mkF m 170 #[iv p1, iv p2, iv p3, iv p4, iv p5, iv p6, iv (4 : Int32), iv f1, iv ca, iv cb, iv cc, iv cd, rv sB, iv r0, .unset] []) s1 EF := fun t k => pre257 t (XS.icmpYes X244.here hx rfl (pc0 := 162) (pc' := 170) rfl (B at_162) rfl (tlt hc162).1 (by decide) (by decide) k)
      have pre259 : Go p e bl T244 (mkF m 174 #[iv p1, iv p2, iv p3, iv p4, iv p5, iv p6, iv (4 : Int32), iv f1, iv ca, iv cb, iv cc, iv cd, rv sB, iv r0, iv r0] []) s1 EF := fun t k => pre258 t (by
       refine XS.iload X244.here hx rfl (B at_170) rfl ?_
       exact XS.istore X244.here hx rfl (B at_172) rfl (l' := #[iv p1, iv p2, iv p3, iv p4, iv p5, iv p6, iv (4 : Int32), iv f1, iv ca, iv cb, iv cc, iv cd, rv sB, iv r0, iv r0]) rfl k)
      exact ⟨_, _, r0, X244, N244, e244, (by rw [if_pos hc162]), pre259⟩
    have pre260 : Go p e bl T244 (mkF m 165 #[iv p1, iv p2, iv p3, iv p4, iv p5, iv p6, iv (4 : Int32), iv f1, iv ca, iv cb, iv cc, iv cd, rv sB, iv r0, .unset] []) s1 EF := fun t k => pre257 t (XS.icmpNo X244.here hx rfl (B at_162) rfl (flt hc162).1 k)
    have pre261 : Go p e bl T244 (mkF m 174 #[iv p1, iv p2, iv p3, iv p4, iv p5, iv p6, iv (4 : Int32), iv f1, iv ca, iv cb, iv cc, iv cd, rv sB, iv r0, iv f1] []) s1 EF := fun t k => pre260 t (by
     refine XS.iload X244.here hx rfl (B at_165) rfl ?_
     refine XS.goto X244.here hx rfl (pc0 := 167) (pc' := 172) rfl (B at_167) (by decide) (by decide) ?_
     exact XS.istore X244.here hx rfl (B at_172) rfl (l' := #[iv p1, iv p2, iv p3, iv p4, iv p5, iv p6, iv (4 : Int32), iv f1, iv ca, iv cb, iv cc, iv cd, rv sB, iv r0, iv f1]) rfl k)
    exact ⟨_, _, f1, X244, N244, e244, (by rw [if_neg hc162]), pre261⟩
  have pre262 : Go p e bl T256 (mkF m 178 #[iv p1, iv p2, iv p3, iv p4, iv p5, iv p6, iv (4 : Int32), iv f1, iv ca, iv cb, iv cc, iv cd, rv sB, iv r0, iv ex1] [(.int f1), (.ref sB)]) s1 EF := fun t k => pre256 t (by
   refine XS.aload X256.here hx rfl (B at_174) rfl rfl ?_
   exact XS.iload X256.here hx rfl (B at_176) rfl k)
  obtain ⟨_, _, ⟨T263, L263, k263, n263⟩, -, X263, ⟨Lc263, hQ263, l263, y263, z263⟩, st263⟩ := Jvm.LawKit.callS X256 hx (y := mN23) hown0 (mvT hZ0 (hw _ (mW 28 rfl))) (mvT hZ0 (hw _ (mW 29 rfl))) (mvT hZ0 (hw _ (mW 30 rfl))) (mvT hZ0 (hw _ (mW 31 rfl))) (by decide) (backOf (W := 0) (rmK4 l Z a0 hw [] sB f1 cz fv ta cl ca cb cc cd ex1 T204.heap n0 Z206 O206 J0 S0 TB HT SF204 hf1 (by rw [hj256_0, hj244_0, hj232_0, hj220_0, hj208_0])) hZ0 (hw _ (mW 31 rfl)) (hw _ (mW 30 rfl)) (by decide) (by decide)) (g := (mkF m 178 #[iv p1, iv p2, iv p3, iv p4, iv p5, iv p6, iv (4 : Int32), iv f1, iv ca, iv cb, iv cc, iv cd, rv sB, iv r0, iv ex1] [(.int f1), (.ref sB)])) rfl (hM rfl) (argsL := [(.ref sB), (.int f1)]) (rest := []) (lenOf pd19 rfl) rfl (Nat.le_of_eq rfl) (B at_178) (fun _ _ => ⟨rfl, e256, wl rfl, wl rfl⟩)
  dsimp only [Pt.U, Pt.locs, Pt.cells, Pt.slots] at X263 l263 y263 z263 st263 hQ263
  subst l263 y263 z263
  obtain ⟨rfl, N263q, hq263⟩ := hQ263
  have N263 := Fr.app N256 N263q
  have pre264 : Go p e bl T263 (mkF m 181 #[iv p1, iv p2, iv p3, iv p4, iv p5, iv p6, iv (4 : Int32), iv f1, iv ca, iv cb, iv cc, iv cd, rv sB, iv r0, iv ex1] [(.int ex1)]) s1 EF := fun t k => pre262 t (st263 t k)
  have e263 : T263.heap = T204.heap := hq263
  have pre265 : Go p e bl T263 (mkF m 183 #[iv p1, iv p2, iv p3, iv p4, iv p5, iv p6, iv (4 : Int32), iv f1, iv ca, iv cb, iv cc, iv cd, rv sB, iv r0, iv ex1] [(.int ex1), (.int ex1)]) s1 EF := fun t k => pre264 t (by
   exact XS.iload X263.here hx rfl (B at_181) rfl k)
  have pre266 : Go p e bl T263 (mkF m 186 #[iv p1, iv p2, iv p3, iv p4, iv p5, iv p6, iv (4 : Int32), iv f1, iv ca, iv cb, iv cc, iv cd, rv sB, iv r0, iv ex1] []) s1 EF := fun t k => pre265 t (XS.icmpNo X263.here hx rfl (B at_183) rfl (teq (rfl : ex1 = ex1)).2 k)
  have pre267 : Go p e bl T263 (mkF m 191 #[iv p1, iv p2, iv p3, iv p4, iv p5, iv p6, iv (4 : Int32), iv f1, iv ca, iv cb, iv cc, iv cd, rv sB, iv r0, iv ex1] [(.int (1 : Int32))]) s1 EF := fun t k => pre266 t (by
   refine XS.iconst X263.here hx rfl (B at_186) ?_
   exact XS.goto X263.here hx rfl (pc0 := 187) (pc' := 191) rfl (B at_187) (by decide) (by decide) k)
  have hnr : Value.int (nar .boolean (1 : Int32)) = (.int (1 : Int32)) := by rfl
  obtain ⟨fs, hr, hrun, hended, hend1, hend2, hend3, hsame⟩ := X263.leaveW hS0 (by rw [e263]; exact hk206) (v := some (.int (1 : Int32))) (fun h => by rw [Bd.returns] at h; cases h)
  have hCH : CHr Z [("java/lang/String", 7)] s.vm s.heap T263.vm T263.heap := by rw [hh, e263]; exact R206.trans (CHv.at X263 hZ0 (own_EW hw) C206)
  refine ⟨_, _, hEF ▸ pre267 _ (retN X263 hx (t := .boolean) Bd.returns (by simp) (B at_191) (hnr ▸ hr)), hrun, hended, _, _, rfl, ?_, hCH, hend1, hend2, hend3, hsame.mono (by decide) (by decide)⟩
  show QL Z p1 p2 p3 p4 p5 p6 cz fv ta cl h0 n0 _ T263.heap _
  rw [e263]
  exact ⟨rfl, N263⟩
theorem own_len {args : Array Value} {s : State} {t : Term} {a : Addr} {cl : Cell} {k : Int32} (ev : t.eval args s none [] s = some (.ref a)) (hal : s.arrayAt? a = some cl) (h : (Jvm.Cond.eq (.length t) (.int k)).value args s none s [] = some true) : cl.slots.size < 2 ^ 31 ∧ cl.slots.size.toInt32 = k := by
  by_cases q : cl.slots.size < 2 ^ 31
  · exact ⟨q, gotT (Cond.eq_ints (len_f ev hal q) (Term.int_eval k)) h⟩
  · exfalso
    simp [Jvm.Cond.value, Term.eval, ev, hal, q] at h
theorem own_128 (j : Int32) (h1 : ¬ j < 0) (h2 : j < 128) : ∃ k : Fin 128, j = Int32.ofNat k.1 := by
  simp only [Int32.lt_iff_toInt_lt, own_l0, own_l128] at h1 h2
  refine ⟨⟨j.toInt.toNat, by omega⟩, ?_⟩
  rw [← Int32.toInt_inj, Int32.toInt_ofNat_of_lt (by show j.toInt.toNat < 2 ^ 31; omega)]
  show j.toInt = (j.toInt.toNat : Int)
  omega
theorem own_held {s : State} {tb : Tables} {e : Env} {args : Array Value} (h : call_1_1 tb e args s) : ∀ p ∈ [("java/lang/String", 7)], Jvm.Lit.constHeld s p.1 p.2 := h
set_option maxRecDepth 65536 in
set_option maxHeartbeats 40000000 in
theorem comes_1 {Post : Tables → Env → Array Value → State → Outcome → State → Prop} (hpost : ∀ tb e args s v u, (limb_1_1.after args s (.returned v) u = true ∧ limb_1_2.after args s (.returned v) u = true ∧ True) → ReturnedEndW s (.returned v) u (Jvm.fieldLocs frame_1_writes args s ++ Jvm.arrayLocs frame_1_arrays args s ++ Jvm.staticLocs frame_1_statics s) 24 1152 → Post tb e args s (.returned v) u) :
    ArmFor flags0 classFile x code maxLocals ret World_1 tables_1 room_1 Calls_1 rest_1 Pre_1 Post := by
  intro l hfl _ _ p e ha hc hk s m args below hf hA hF happ hP
  obtain ⟨hcalls, hrest, hpre⟩ := hP
  obtain ⟨-, -, -, hnamed, -, -, -, hat⟩ := (Spec.applies_iff hf).mp happ
  obtain ⟨hg, hn⟩ := and_e (Cond.before_iff.mp (show (Jvm.Cond.and given_1 narrow_1).before args s = true from hpre))
  obtain ⟨hg0, hgr0⟩ := and_e hg
  obtain ⟨hg1, hgr1⟩ := and_e hgr0
  obtain ⟨hg2, hgr2⟩ := and_e hgr1
  obtain ⟨hg3, hgr3⟩ := and_e hgr2
  obtain ⟨hg4, hgr4⟩ := and_e hgr3
  obtain ⟨hg5, hg6⟩ := and_e hgr4
  obtain ⟨w0, w1, w2, w3, w4, w5, rfl⟩ : ∃ w0 w1 w2 w3 w4 w5 : Value, args = #[w0, w1, w2, w3, w4, w5] := by
    have hs : args.size = 6 := by simpa [Cond.value, given_1] using hg0
    obtain ⟨L⟩ := args
    match L, hs with
    | [w0, w1, w2, w3, w4, w5], _ => exact ⟨w0, w1, w2, w3, w4, w5, rfl⟩
  have hw := fun d (hd : d ∈ tables_1) => atoms_spec (ws := Jvm.Cond.code x code maxLocals ret :: tables_1) hat d (List.mem_cons_of_mem _ hd)
  have hfit : Fit s := fun {y c} hc i hi => by
    obtain ⟨ha, rfl⟩ := Array.getElem?_eq_some_iff.mp hc
    have q := List.all_eq_true.mp ((Array.all_eq_true_iff_forall_mem.mp hF) _ (Array.getElem_mem ha)) i (List.mem_range.mpr hi)
    simpa [Array.getElem?_eq_getElem hi] using q
  obtain ⟨hsets, hown0⟩ := atoms_of _ (rest_1_c_eq ▸ (show rest_1_c.before _ s = true from hrest))
  have hr0 := Cond.before_iff.mp hown0
  obtain ⟨x0, ei0⟩ := is_v hg1
  obtain rfl : w0 = (.int x0) := Option.some.inj ei0
  obtain ⟨x1, ei1⟩ := is_v hg2
  obtain rfl : w1 = (.int x1) := Option.some.inj ei1
  obtain ⟨x2, ei2⟩ := is_v hg3
  obtain rfl : w2 = (.int x2) := Option.some.inj ei2
  obtain ⟨x3, ei3⟩ := is_v hg4
  obtain rfl : w3 = (.int x3) := Option.some.inj ei3
  obtain ⟨x4, ei4⟩ := is_v hg5
  obtain rfl : w4 = (.int x4) := Option.some.inj ei4
  obtain ⟨x5, ei5⟩ := is_v hg6
  obtain rfl : w5 = (.int x5) := Option.some.inj ei5
  obtain ⟨cz, ecz⟩ := is_v (Cond.before_iff.mp (hsets _ (mJ 1 rfl)))
  have hcz : cz ≠ 0 := gotF (Cond.eq_ints ecz (Term.int_eval 0)) (not_v (Cond.before_iff.mp (hsets _ (mJ 2 rfl))))
  have SC : Sta s s.heap "java/lang/String" "COMPACT_STRINGS" "Z" (.int cz) := Sta.start ecz (Or.inl (hsets _ (mJ 0 rfl)))
  obtain ⟨fv, efv, hfv⟩ := isR_v (Cond.before_iff.mp (hsets _ (mJ 8 rfl)))
  have SF : Sta s s.heap "jdk/internal/util/Preconditions" "SIOOBE_FORMATTER" "Ljava/util/function/BiFunction;" fv := Sta.start efv (Or.inl (hsets _ (mJ 7 rfl)))
  have SU0 : Sta s s.heap "java/lang/StringUTF16" "$assertionsDisabled" "Z" (.int 1) := Sta.start (eqv_i (Term.int_eval 1) (Cond.before_iff.mp (hsets _ (mJ 12 rfl)))) (Or.inl (hsets _ (mJ 11 rfl)))
  have SU1 : Sta s s.heap "java/lang/StringUTF16" "HI_BYTE_SHIFT" "I" (.int 0) := Sta.start (eqv_i (Term.int_eval 0) (Cond.before_iff.mp (hsets _ (mJ 15 rfl)))) (Or.inl (hsets _ (mJ 14 rfl)))
  have SU2 : Sta s s.heap "java/lang/StringUTF16" "LO_BYTE_SHIFT" "I" (.int 8) := Sta.start (eqv_i (Term.int_eval 8) (Cond.before_iff.mp (hsets _ (mJ 18 rfl)))) (Or.inl (hsets _ (mJ 17 rfl)))
  have J0 : Jd s cz fv := ⟨SC, hcz, ⟨hfv, SF⟩, SU0, SU1, SU2, trivial⟩
  have hC : CHv s [("java/lang/String", 7)] s.vm s.heap := CHv.start (own_EW hw) (own_held hcalls.1) (hsets _ (mJ 2 rfl)) (hw _ (mW 21 rfl)) (hw _ (mW 7 rfl))
  obtain ⟨nr0, nr1⟩ := and_e hn
  obtain ⟨nr2, nr3⟩ := and_e nr1
  obtain ⟨nr4, nr5⟩ := and_e nr3
  obtain ⟨nr6, nr7⟩ := and_e nr5
  obtain ⟨nr8, nr9⟩ := and_e nr7
  obtain ⟨nr10, nr11⟩ := and_e nr9
  obtain ⟨nr12, nr13⟩ := and_e nr11
  obtain ⟨nr14, nr15⟩ := and_e nr13
  obtain ⟨nr16, nr17⟩ := and_e nr15
  obtain ⟨nr18, nr19⟩ := and_e nr17
  obtain ⟨nr20, nr21⟩ := and_e nr19
  obtain ⟨nr22, nr23⟩ := and_e nr21
  obtain ⟨nr24, nr25⟩ := and_e nr23
  obtain ⟨nr26, nr27⟩ := and_e nr25
  obtain ⟨nr28, nr29⟩ := and_e nr27
  obtain ⟨nr30, nr31⟩ := and_e nr29
  obtain ⟨nr32, nr33⟩ := and_e nr31
  obtain ⟨nr34, nr35⟩ := and_e nr33
  obtain ⟨nr36, nr37⟩ := and_e nr35
  obtain ⟨nr38, nr39⟩ := and_e nr37
  obtain ⟨nr40, nr41⟩ := and_e nr39
  obtain ⟨nr42, nr43⟩ := and_e nr41
  obtain ⟨nr44, nr45⟩ := and_e nr43
  obtain ⟨nr46, nr47⟩ := and_e nr45
  obtain ⟨nr48, nr49⟩ := and_e nr47
  obtain ⟨ta, ev⟩ := arr_v nr0
  obtain ⟨cl, A⟩ := Arr.start ev nr0
  have S0 : Sta s s.heap "com/example/oxpecker/oxpecker/http/HttpInput" "TOKEN" "[Z" (.ref ta) := Sta.start ev (Or.inr ⟨(hw _ (mW 30 rfl)), (hw _ (mW 82 rfl))⟩)
  have hal : s.arrayAt? ta = some cl := Arr.fin (Vm.Alike.refl _) A
  have hsz : cl.slots.size < 2 ^ 31 ∧ cl.slots.size.toInt32 = 128 := own_len ev hal nr2
  have TB := Tab.start hfit A (Or.inr (Or.inl rfl)) hsz.1 hsz.2 (by decide)
  have hst : ∀ idx, (Jvm.Term.static "com/example/oxpecker/oxpecker/http/HttpInput" "TOKEN" "[Z").eval #[.int x0, .int x1, .int x2, .int x3, .int x4, .int x5] s none idx s = some (.ref ta) := fun idx => ev
  have hin : ∀ j : Int32, ¬ j < 0 → j < 128 → ¬ (j < 0 ∨ cl.slots.size ≤ j.toNatClampNeg) := fun j a b => inb_of TB.2.1 ⟨a, b⟩
  have Pnr4 := fun j h => own_all2 TB hst hal nr4 j h
  have Pnr6 := own_one TB hst hal (hin _ (by decide) (by decide)) nr6
  have Pnr8 := own_one TB hst hal (hin _ (by decide) (by decide)) nr8
  have Pnr10 := fun j h => own_all3 TB hst hal nr10 j h
  have Pnr12 := own_one TB hst hal (hin _ (by decide) (by decide)) nr12
  have Pnr14 := own_one TB hst hal (hin _ (by decide) (by decide)) nr14
  have Pnr16 := own_one TB hst hal (hin _ (by decide) (by decide)) nr16
  have Pnr18 := own_one TB hst hal (hin _ (by decide) (by decide)) nr18
  have Pnr20 := own_one TB hst hal (hin _ (by decide) (by decide)) nr20
  have Pnr22 := own_one TB hst hal (hin _ (by decide) (by decide)) nr22
  have Pnr24 := own_one TB hst hal (hin _ (by decide) (by decide)) nr24
  have Pnr26 := own_one TB hst hal (hin _ (by decide) (by decide)) nr26
  have Pnr28 := fun j h => own_all3 TB hst hal nr28 j h
  have Pnr30 := fun j h => own_all3 TB hst hal nr30 j h
  have Pnr32 := fun j h => own_all3 TB hst hal nr32 j h
  have Pnr34 := own_one TB hst hal (hin _ (by decide) (by decide)) nr34
  have Pnr36 := own_one TB hst hal (hin _ (by decide) (by decide)) nr36
  have Pnr38 := own_one TB hst hal (hin _ (by decide) (by decide)) nr38
  have Pnr40 := fun j h => own_all3 TB hst hal nr40 j h
  have Pnr42 := own_one TB hst hal (hin _ (by decide) (by decide)) nr42
  have Pnr44 := own_one TB hst hal (hin _ (by decide) (by decide)) nr44
  have Pnr46 := own_one TB hst hal (hin _ (by decide) (by decide)) nr46
  have Pnr48 := own_one TB hst hal (hin _ (by decide) (by decide)) nr48
  have Pnr49 := own_one TB hst hal (hin _ (by decide) (by decide)) nr49
  have HT : ∀ j : Int32, ¬ j < 0 → j < 128 → atv cl j = expF j := by
    intro j h1 h2
    obtain ⟨⟨k, hk⟩, rfl⟩ := own_128 j h1 h2
    show atv cl (Int32.ofNat k) = expF (Int32.ofNat k)
    clear h1 h2
    match k, hk with
    | 0, _ => exact ((Pnr4 0 (hin _ (by decide) (by decide))).resolve_left (by decide)).trans (by decide)
    | 1, _ => exact ((Pnr4 1 (hin _ (by decide) (by decide))).resolve_left (by decide)).trans (by decide)
    | 2, _ => exact ((Pnr4 2 (hin _ (by decide) (by decide))).resolve_left (by decide)).trans (by decide)
    | 3, _ => exact ((Pnr4 3 (hin _ (by decide) (by decide))).resolve_left (by decide)).trans (by decide)
    | 4, _ => exact ((Pnr4 4 (hin _ (by decide) (by decide))).resolve_left (by decide)).trans (by decide)
    | 5, _ => exact ((Pnr4 5 (hin _ (by decide) (by decide))).resolve_left (by decide)).trans (by decide)
    | 6, _ => exact ((Pnr4 6 (hin _ (by decide) (by decide))).resolve_left (by decide)).trans (by decide)
    | 7, _ => exact ((Pnr4 7 (hin _ (by decide) (by decide))).resolve_left (by decide)).trans (by decide)
    | 8, _ => exact ((Pnr4 8 (hin _ (by decide) (by decide))).resolve_left (by decide)).trans (by decide)
    | 9, _ => exact ((Pnr4 9 (hin _ (by decide) (by decide))).resolve_left (by decide)).trans (by decide)
    | 10, _ => exact ((Pnr4 10 (hin _ (by decide) (by decide))).resolve_left (by decide)).trans (by decide)
    | 11, _ => exact ((Pnr4 11 (hin _ (by decide) (by decide))).resolve_left (by decide)).trans (by decide)
    | 12, _ => exact ((Pnr4 12 (hin _ (by decide) (by decide))).resolve_left (by decide)).trans (by decide)
    | 13, _ => exact ((Pnr4 13 (hin _ (by decide) (by decide))).resolve_left (by decide)).trans (by decide)
    | 14, _ => exact ((Pnr4 14 (hin _ (by decide) (by decide))).resolve_left (by decide)).trans (by decide)
    | 15, _ => exact ((Pnr4 15 (hin _ (by decide) (by decide))).resolve_left (by decide)).trans (by decide)
    | 16, _ => exact ((Pnr4 16 (hin _ (by decide) (by decide))).resolve_left (by decide)).trans (by decide)
    | 17, _ => exact ((Pnr4 17 (hin _ (by decide) (by decide))).resolve_left (by decide)).trans (by decide)
    | 18, _ => exact ((Pnr4 18 (hin _ (by decide) (by decide))).resolve_left (by decide)).trans (by decide)
    | 19, _ => exact ((Pnr4 19 (hin _ (by decide) (by decide))).resolve_left (by decide)).trans (by decide)
    | 20, _ => exact ((Pnr4 20 (hin _ (by decide) (by decide))).resolve_left (by decide)).trans (by decide)
    | 21, _ => exact ((Pnr4 21 (hin _ (by decide) (by decide))).resolve_left (by decide)).trans (by decide)
    | 22, _ => exact ((Pnr4 22 (hin _ (by decide) (by decide))).resolve_left (by decide)).trans (by decide)
    | 23, _ => exact ((Pnr4 23 (hin _ (by decide) (by decide))).resolve_left (by decide)).trans (by decide)
    | 24, _ => exact ((Pnr4 24 (hin _ (by decide) (by decide))).resolve_left (by decide)).trans (by decide)
    | 25, _ => exact ((Pnr4 25 (hin _ (by decide) (by decide))).resolve_left (by decide)).trans (by decide)
    | 26, _ => exact ((Pnr4 26 (hin _ (by decide) (by decide))).resolve_left (by decide)).trans (by decide)
    | 27, _ => exact ((Pnr4 27 (hin _ (by decide) (by decide))).resolve_left (by decide)).trans (by decide)
    | 28, _ => exact ((Pnr4 28 (hin _ (by decide) (by decide))).resolve_left (by decide)).trans (by decide)
    | 29, _ => exact ((Pnr4 29 (hin _ (by decide) (by decide))).resolve_left (by decide)).trans (by decide)
    | 30, _ => exact ((Pnr4 30 (hin _ (by decide) (by decide))).resolve_left (by decide)).trans (by decide)
    | 31, _ => exact ((Pnr4 31 (hin _ (by decide) (by decide))).resolve_left (by decide)).trans (by decide)
    | 32, _ => exact ((Pnr4 32 (hin _ (by decide) (by decide))).resolve_left (by decide)).trans (by decide)
    | 33, _ => exact Pnr6.trans (by decide)
    | 34, _ => exact Pnr8.trans (by decide)
    | 35, _ => exact (((Pnr10 35 (hin _ (by decide) (by decide))).resolve_left (by decide)).resolve_left (by decide)).trans (by decide)
    | 36, _ => exact (((Pnr10 36 (hin _ (by decide) (by decide))).resolve_left (by decide)).resolve_left (by decide)).trans (by decide)
    | 37, _ => exact (((Pnr10 37 (hin _ (by decide) (by decide))).resolve_left (by decide)).resolve_left (by decide)).trans (by decide)
    | 38, _ => exact (((Pnr10 38 (hin _ (by decide) (by decide))).resolve_left (by decide)).resolve_left (by decide)).trans (by decide)
    | 39, _ => exact (((Pnr10 39 (hin _ (by decide) (by decide))).resolve_left (by decide)).resolve_left (by decide)).trans (by decide)
    | 40, _ => exact Pnr12.trans (by decide)
    | 41, _ => exact Pnr14.trans (by decide)
    | 42, _ => exact Pnr16.trans (by decide)
    | 43, _ => exact Pnr18.trans (by decide)
    | 44, _ => exact Pnr20.trans (by decide)
    | 45, _ => exact Pnr22.trans (by decide)
    | 46, _ => exact Pnr24.trans (by decide)
    | 47, _ => exact Pnr26.trans (by decide)
    | 48, _ => exact (((Pnr28 48 (hin _ (by decide) (by decide))).resolve_left (by decide)).resolve_left (by decide)).trans (by decide)
    | 49, _ => exact (((Pnr28 49 (hin _ (by decide) (by decide))).resolve_left (by decide)).resolve_left (by decide)).trans (by decide)
    | 50, _ => exact (((Pnr28 50 (hin _ (by decide) (by decide))).resolve_left (by decide)).resolve_left (by decide)).trans (by decide)
    | 51, _ => exact (((Pnr28 51 (hin _ (by decide) (by decide))).resolve_left (by decide)).resolve_left (by decide)).trans (by decide)
    | 52, _ => exact (((Pnr28 52 (hin _ (by decide) (by decide))).resolve_left (by decide)).resolve_left (by decide)).trans (by decide)
    | 53, _ => exact (((Pnr28 53 (hin _ (by decide) (by decide))).resolve_left (by decide)).resolve_left (by decide)).trans (by decide)
    | 54, _ => exact (((Pnr28 54 (hin _ (by decide) (by decide))).resolve_left (by decide)).resolve_left (by decide)).trans (by decide)
    | 55, _ => exact (((Pnr28 55 (hin _ (by decide) (by decide))).resolve_left (by decide)).resolve_left (by decide)).trans (by decide)
    | 56, _ => exact (((Pnr28 56 (hin _ (by decide) (by decide))).resolve_left (by decide)).resolve_left (by decide)).trans (by decide)
    | 57, _ => exact (((Pnr28 57 (hin _ (by decide) (by decide))).resolve_left (by decide)).resolve_left (by decide)).trans (by decide)
    | 58, _ => exact (((Pnr30 58 (hin _ (by decide) (by decide))).resolve_left (by decide)).resolve_left (by decide)).trans (by decide)
    | 59, _ => exact (((Pnr30 59 (hin _ (by decide) (by decide))).resolve_left (by decide)).resolve_left (by decide)).trans (by decide)
    | 60, _ => exact (((Pnr30 60 (hin _ (by decide) (by decide))).resolve_left (by decide)).resolve_left (by decide)).trans (by decide)
    | 61, _ => exact (((Pnr30 61 (hin _ (by decide) (by decide))).resolve_left (by decide)).resolve_left (by decide)).trans (by decide)
    | 62, _ => exact (((Pnr30 62 (hin _ (by decide) (by decide))).resolve_left (by decide)).resolve_left (by decide)).trans (by decide)
    | 63, _ => exact (((Pnr30 63 (hin _ (by decide) (by decide))).resolve_left (by decide)).resolve_left (by decide)).trans (by decide)
    | 64, _ => exact (((Pnr30 64 (hin _ (by decide) (by decide))).resolve_left (by decide)).resolve_left (by decide)).trans (by decide)
    | 65, _ => exact (((Pnr32 65 (hin _ (by decide) (by decide))).resolve_left (by decide)).resolve_left (by decide)).trans (by decide)
    | 66, _ => exact (((Pnr32 66 (hin _ (by decide) (by decide))).resolve_left (by decide)).resolve_left (by decide)).trans (by decide)
    | 67, _ => exact (((Pnr32 67 (hin _ (by decide) (by decide))).resolve_left (by decide)).resolve_left (by decide)).trans (by decide)
    | 68, _ => exact (((Pnr32 68 (hin _ (by decide) (by decide))).resolve_left (by decide)).resolve_left (by decide)).trans (by decide)
    | 69, _ => exact (((Pnr32 69 (hin _ (by decide) (by decide))).resolve_left (by decide)).resolve_left (by decide)).trans (by decide)
    | 70, _ => exact (((Pnr32 70 (hin _ (by decide) (by decide))).resolve_left (by decide)).resolve_left (by decide)).trans (by decide)
    | 71, _ => exact (((Pnr32 71 (hin _ (by decide) (by decide))).resolve_left (by decide)).resolve_left (by decide)).trans (by decide)
    | 72, _ => exact (((Pnr32 72 (hin _ (by decide) (by decide))).resolve_left (by decide)).resolve_left (by decide)).trans (by decide)
    | 73, _ => exact (((Pnr32 73 (hin _ (by decide) (by decide))).resolve_left (by decide)).resolve_left (by decide)).trans (by decide)
    | 74, _ => exact (((Pnr32 74 (hin _ (by decide) (by decide))).resolve_left (by decide)).resolve_left (by decide)).trans (by decide)
    | 75, _ => exact (((Pnr32 75 (hin _ (by decide) (by decide))).resolve_left (by decide)).resolve_left (by decide)).trans (by decide)
    | 76, _ => exact (((Pnr32 76 (hin _ (by decide) (by decide))).resolve_left (by decide)).resolve_left (by decide)).trans (by decide)
    | 77, _ => exact (((Pnr32 77 (hin _ (by decide) (by decide))).resolve_left (by decide)).resolve_left (by decide)).trans (by decide)
    | 78, _ => exact (((Pnr32 78 (hin _ (by decide) (by decide))).resolve_left (by decide)).resolve_left (by decide)).trans (by decide)
    | 79, _ => exact (((Pnr32 79 (hin _ (by decide) (by decide))).resolve_left (by decide)).resolve_left (by decide)).trans (by decide)
    | 80, _ => exact (((Pnr32 80 (hin _ (by decide) (by decide))).resolve_left (by decide)).resolve_left (by decide)).trans (by decide)
    | 81, _ => exact (((Pnr32 81 (hin _ (by decide) (by decide))).resolve_left (by decide)).resolve_left (by decide)).trans (by decide)
    | 82, _ => exact (((Pnr32 82 (hin _ (by decide) (by decide))).resolve_left (by decide)).resolve_left (by decide)).trans (by decide)
    | 83, _ => exact (((Pnr32 83 (hin _ (by decide) (by decide))).resolve_left (by decide)).resolve_left (by decide)).trans (by decide)
    | 84, _ => exact (((Pnr32 84 (hin _ (by decide) (by decide))).resolve_left (by decide)).resolve_left (by decide)).trans (by decide)
    | 85, _ => exact (((Pnr32 85 (hin _ (by decide) (by decide))).resolve_left (by decide)).resolve_left (by decide)).trans (by decide)
    | 86, _ => exact (((Pnr32 86 (hin _ (by decide) (by decide))).resolve_left (by decide)).resolve_left (by decide)).trans (by decide)
    | 87, _ => exact (((Pnr32 87 (hin _ (by decide) (by decide))).resolve_left (by decide)).resolve_left (by decide)).trans (by decide)
    | 88, _ => exact (((Pnr32 88 (hin _ (by decide) (by decide))).resolve_left (by decide)).resolve_left (by decide)).trans (by decide)
    | 89, _ => exact (((Pnr32 89 (hin _ (by decide) (by decide))).resolve_left (by decide)).resolve_left (by decide)).trans (by decide)
    | 90, _ => exact (((Pnr32 90 (hin _ (by decide) (by decide))).resolve_left (by decide)).resolve_left (by decide)).trans (by decide)
    | 91, _ => exact Pnr34.trans (by decide)
    | 92, _ => exact Pnr36.trans (by decide)
    | 93, _ => exact Pnr38.trans (by decide)
    | 94, _ => exact (((Pnr40 94 (hin _ (by decide) (by decide))).resolve_left (by decide)).resolve_left (by decide)).trans (by decide)
    | 95, _ => exact (((Pnr40 95 (hin _ (by decide) (by decide))).resolve_left (by decide)).resolve_left (by decide)).trans (by decide)
    | 96, _ => exact (((Pnr40 96 (hin _ (by decide) (by decide))).resolve_left (by decide)).resolve_left (by decide)).trans (by decide)
    | 97, _ => exact (((Pnr40 97 (hin _ (by decide) (by decide))).resolve_left (by decide)).resolve_left (by decide)).trans (by decide)
    | 98, _ => exact (((Pnr40 98 (hin _ (by decide) (by decide))).resolve_left (by decide)).resolve_left (by decide)).trans (by decide)
    | 99, _ => exact (((Pnr40 99 (hin _ (by decide) (by decide))).resolve_left (by decide)).resolve_left (by decide)).trans (by decide)
    | 100, _ => exact (((Pnr40 100 (hin _ (by decide) (by decide))).resolve_left (by decide)).resolve_left (by decide)).trans (by decide)
    | 101, _ => exact (((Pnr40 101 (hin _ (by decide) (by decide))).resolve_left (by decide)).resolve_left (by decide)).trans (by decide)
    | 102, _ => exact (((Pnr40 102 (hin _ (by decide) (by decide))).resolve_left (by decide)).resolve_left (by decide)).trans (by decide)
    | 103, _ => exact (((Pnr40 103 (hin _ (by decide) (by decide))).resolve_left (by decide)).resolve_left (by decide)).trans (by decide)
    | 104, _ => exact (((Pnr40 104 (hin _ (by decide) (by decide))).resolve_left (by decide)).resolve_left (by decide)).trans (by decide)
    | 105, _ => exact (((Pnr40 105 (hin _ (by decide) (by decide))).resolve_left (by decide)).resolve_left (by decide)).trans (by decide)
    | 106, _ => exact (((Pnr40 106 (hin _ (by decide) (by decide))).resolve_left (by decide)).resolve_left (by decide)).trans (by decide)
    | 107, _ => exact (((Pnr40 107 (hin _ (by decide) (by decide))).resolve_left (by decide)).resolve_left (by decide)).trans (by decide)
    | 108, _ => exact (((Pnr40 108 (hin _ (by decide) (by decide))).resolve_left (by decide)).resolve_left (by decide)).trans (by decide)
    | 109, _ => exact (((Pnr40 109 (hin _ (by decide) (by decide))).resolve_left (by decide)).resolve_left (by decide)).trans (by decide)
    | 110, _ => exact (((Pnr40 110 (hin _ (by decide) (by decide))).resolve_left (by decide)).resolve_left (by decide)).trans (by decide)
    | 111, _ => exact (((Pnr40 111 (hin _ (by decide) (by decide))).resolve_left (by decide)).resolve_left (by decide)).trans (by decide)
    | 112, _ => exact (((Pnr40 112 (hin _ (by decide) (by decide))).resolve_left (by decide)).resolve_left (by decide)).trans (by decide)
    | 113, _ => exact (((Pnr40 113 (hin _ (by decide) (by decide))).resolve_left (by decide)).resolve_left (by decide)).trans (by decide)
    | 114, _ => exact (((Pnr40 114 (hin _ (by decide) (by decide))).resolve_left (by decide)).resolve_left (by decide)).trans (by decide)
    | 115, _ => exact (((Pnr40 115 (hin _ (by decide) (by decide))).resolve_left (by decide)).resolve_left (by decide)).trans (by decide)
    | 116, _ => exact (((Pnr40 116 (hin _ (by decide) (by decide))).resolve_left (by decide)).resolve_left (by decide)).trans (by decide)
    | 117, _ => exact (((Pnr40 117 (hin _ (by decide) (by decide))).resolve_left (by decide)).resolve_left (by decide)).trans (by decide)
    | 118, _ => exact (((Pnr40 118 (hin _ (by decide) (by decide))).resolve_left (by decide)).resolve_left (by decide)).trans (by decide)
    | 119, _ => exact (((Pnr40 119 (hin _ (by decide) (by decide))).resolve_left (by decide)).resolve_left (by decide)).trans (by decide)
    | 120, _ => exact (((Pnr40 120 (hin _ (by decide) (by decide))).resolve_left (by decide)).resolve_left (by decide)).trans (by decide)
    | 121, _ => exact (((Pnr40 121 (hin _ (by decide) (by decide))).resolve_left (by decide)).resolve_left (by decide)).trans (by decide)
    | 122, _ => exact (((Pnr40 122 (hin _ (by decide) (by decide))).resolve_left (by decide)).resolve_left (by decide)).trans (by decide)
    | 123, _ => exact Pnr42.trans (by decide)
    | 124, _ => exact Pnr44.trans (by decide)
    | 125, _ => exact Pnr46.trans (by decide)
    | 126, _ => exact Pnr48.trans (by decide)
    | 127, _ => exact Pnr49.trans (by decide)
    | n + 128, h => exact absurd h (by omega)
  obtain ⟨n, o, h1, h2, h3, _, L, rfl, ⟨rfl, N⟩, -, hq⟩ := rmL l s _ hw tables_1 x0 x1 x2 x3 x4 x5 cz fv ta cl s.heap s.heap.size (Nat.le_refl _) (Old.start s) J0 S0 TB HT p e ha hc hk s m _ below hf ((Spec.applies_iff_loose hf).mp happ).1 ⟨rfl, State.Warmed39.refl s, rfl, hC⟩ trivial
  refine ⟨n, _, h1, h2, h3, hpost _ _ _ _ _ _ ⟨Cond.after_iff.mpr rfl, Cond.after_iff.mpr (eq_i res_at (Term.int_eval (1)) rfl), trivial⟩ ⟨hq.1, hq.2.1, hq.2.2.1, (hq.2.2.2.sift fun y hy => Or.inr (N y hy)).mono (by decide) (by decide)⟩⟩
theorem main_1_1 : Claimed_1_1 := comes_1 fun _ _ _ _ _ _ h hF => ⟨h.1, hF.1, hF.2.1, hF.2.2.1, hF.2.2.2⟩
theorem main_1_2 : Claimed_1_2 := comes_1 fun _ _ _ _ _ _ h hF => ⟨h.2.1, hF.1, hF.2.1, hF.2.2.1, hF.2.2.2⟩
end Jvm.Pilot.@@N@@
namespace Jvm.Pilot.@@N@@
open Jvm Jvm.ClassFile Sem Op Lib Jvm.Free Jvm.Stand Jvm.Pilot.@@N@@.Jvm.D
/-! MADE BY PROGRAM (witnessworld.py) out of the Statement's table words and the real class files: 22 classes; the members and pool entries that the words name. The judged class is class 1, her method 3. -/
namespace start1
open Jvm.ClassFile
def u (s : String) : CpInfo := .utf8 (stringToUtf16 s)
/-- a pool by its gaps: so many unusable entries, then the entry; so many at the end -/
def gap : Nat → List CpInfo → List CpInfo
  | 0, r => r
  | n + 1, r => .unusable :: gap n r
def poolList (es : List (Nat × CpInfo)) (last : Nat) : List CpInfo := es.foldr (fun e r => gap e.1 (e.2 :: r)) (gap last [])
def pool (es : List (Nat × CpInfo)) (last : Nat) : Array CpInfo := ⟨poolList es last⟩
def fileOf (pool : Array CpInfo) (this : Nat) (attrs : Array Attribute := #[]) (ms : Array MethodInfo := #[]) (fl : Nat := 33) (sup : Nat := 0) (ifs : Array Nat := #[]) (fds : Array FieldInfo := #[]) : ClassFile where
  minorVersion := 0
  majorVersion := 65
  constantPool := pool
  accessFlags := fl
  thisClass := this
  superClass := sup
  interfaces := ifs
  fields := fds
  methods := ms
  attributes := attrs
def plain (name : String) (sup : Option ClassId) : Class where
  name := name
  kind := .ordinary
  loader := none
  accessFlags := 33
  super := sup
  interfaces := #[]
  cf := none
  fields := #[]
  methods := #[]
  instanceTypes := #[]
  staticTypes := #[]
  resolved := #[]
  callSites := []
  init := .initialized
  statics := none
  mirror := none

def pool0 : Array CpInfo := pool [(5, u "<init>"), (0, u "()V"), (1, .class_ 10), (1, u "java/lang/Object")] 113

def k0c0 : Code := { maxStack := 0, maxLocals := 1, code := object_method_1_code, exceptionTable := #[], attributes := #[] }
def k0m0 : Method := { name := "<init>", desc := "()V", sig := { parameters := [], returnType := none }, accessFlags := 1, code := some k0c0 }
/-- java/lang/Object -/
def k0 : Class := { plain "java/lang/Object" none with
  accessFlags := 33
  interfaces := #[]
  cf := some (fileOf pool0 8 #[] #[{ accessFlags := 1, nameIndex := 5, descriptorIndex := 6, attributes := #[] }] 33 0 #[] #[])
  fields := #[]
  methods := #[k0m0]
  instanceTypes := #[]
  staticTypes := #[]
  resolved := Array.replicate 124 none
  statics := none }

def pool1 : Array CpInfo := pool [(2, .class_ 4), (1, u "java/lang/Object"), (0, u "<init>"), (0, u "()V"), (0, .class_ 8), (0, u "java/lang/String"), (0, .methodref 7 10), (0, .nameAndType 5 11), (0, u "([C)V"), (0, .integer 2147483647), (0, .integer 65535), (0, .methodref 15 16), (0, .class_ 17), (0, .nameAndType 18 19), (0, u "com/example/oxpecker/oxpecker/http/HttpInputTokenEndPinLaw"), (0, u "build"), (0, u "(ICCCC)Ljava/lang/String;"), (0, .methodref 15 21), (0, .nameAndType 22 23), (0, u "tchar"), (0, u "(C)Z"), (0, .methodref 25 26), (0, .class_ 27), (0, .nameAndType 28 29), (0, u "com/example/oxpecker/oxpecker/http/HttpInput"), (0, u "tokenEnd"), (0, u "(Ljava/lang/String;I)I"), (3, u "law"), (0, u "(IIIIII)Z")] 2

def k1m0 : Method := { name := "<init>", desc := "()V", sig := { parameters := [], returnType := none }, accessFlags := 1, code := none }
def k1c1 : Code := { maxStack := 2, maxLocals := 1, code := method_2_code, exceptionTable := #[], attributes := #[] }
def k1m1 : Method := { name := "tchar", desc := "(C)Z", sig := { parameters := [.char], returnType := some .boolean }, accessFlags := 10, code := some k1c1 }
def k1c2 : Code := { maxStack := 6, maxLocals := 5, code := method_3_code, exceptionTable := #[], attributes := #[] }
def k1m2 : Method := { name := "build", desc := "(ICCCC)Ljava/lang/String;", sig := { parameters := [.int, .char, .char, .char, .char], returnType := some (.object "java/lang/String") }, accessFlags := 10, code := some k1c2 }
def k1c3 : Code := { maxStack := 5, maxLocals := 15, code := code, exceptionTable := #[], attributes := #[] }
def k1m3 : Method := { name := "law", desc := "(IIIIII)Z", sig := { parameters := [.int, .int, .int, .int, .int, .int], returnType := some .boolean }, accessFlags := 9, code := some k1c3 }
/-- com/example/oxpecker/oxpecker/http/HttpInputTokenEndPinLaw -/
def k1 : Class := { plain "com/example/oxpecker/oxpecker/http/HttpInputTokenEndPinLaw" (some 0) with
  accessFlags := 49
  interfaces := #[]
  cf := some (fileOf pool1 15 #[] #[{ accessFlags := 1, nameIndex := 5, descriptorIndex := 6, attributes := #[] }, { accessFlags := 10, nameIndex := 22, descriptorIndex := 23, attributes := #[] }, { accessFlags := 10, nameIndex := 18, descriptorIndex := 19, attributes := #[] }, { accessFlags := 9, nameIndex := 33, descriptorIndex := 34, attributes := #[] }] 49 2 #[] #[])
  fields := #[]
  methods := #[k1m0, k1m1, k1m2, k1m3]
  instanceTypes := #[]
  staticTypes := #[]
  resolved := Array.replicate 37 none
  statics := none }

def pool2 : Array CpInfo := pool [(1, .class_ 2), (0, u "java/io/Serializable"), (0, .class_ 4), (0, u "java/lang/Object")] 2

/-- java/io/Serializable -/
def k2 : Class := { plain "java/io/Serializable" (some 0) with
  accessFlags := 1537
  interfaces := #[]
  cf := some (fileOf pool2 1 #[] #[] 1537 3 #[] #[])
  fields := #[]
  methods := #[]
  instanceTypes := #[]
  staticTypes := #[]
  resolved := Array.replicate 7 none
  statics := none }

def pool3 : Array CpInfo := pool [(1, .class_ 2), (0, u "java/lang/Comparable"), (0, .class_ 4), (0, u "java/lang/Object")] 7

/-- java/lang/Comparable -/
def k3 : Class := { plain "java/lang/Comparable" (some 0) with
  accessFlags := 1537
  interfaces := #[]
  cf := some (fileOf pool3 1 #[] #[] 1537 3 #[] #[])
  fields := #[]
  methods := #[]
  instanceTypes := #[]
  staticTypes := #[]
  resolved := Array.replicate 12 none
  statics := none }

def pool4 : Array CpInfo := pool [(2, .class_ 4), (1, u "java/lang/CharSequence"), (42, .class_ 48), (0, u "java/lang/CharSequence$1CodePointIterator"), (10, .class_ 60), (0, u "java/lang/CharSequence$1CharIterator"), (5, .class_ 67), (0, u "java/lang/Object")] 63

/-- java/lang/CharSequence -/
def k4 : Class := { plain "java/lang/CharSequence" (some 0) with
  accessFlags := 1537
  interfaces := #[]
  cf := some (fileOf pool4 2 #[.nestMembers #[47, 59]] #[] 1537 66 #[] #[])
  fields := #[]
  methods := #[]
  instanceTypes := #[]
  staticTypes := #[]
  resolved := Array.replicate 131 none
  statics := none }

def pool5 : Array CpInfo := pool [(1, .class_ 2), (0, u "java/lang/constant/Constable"), (0, .class_ 4), (0, u "java/lang/Object")] 6

/-- java/lang/constant/Constable -/
def k5 : Class := { plain "java/lang/constant/Constable" (some 0) with
  accessFlags := 1537
  interfaces := #[]
  cf := some (fileOf pool5 1 #[] #[] 1537 3 #[] #[])
  fields := #[]
  methods := #[]
  instanceTypes := #[]
  staticTypes := #[]
  resolved := Array.replicate 11 none
  statics := none }

def pool6 : Array CpInfo := pool [(1, .class_ 2), (0, u "java/lang/constant/ConstantDesc"), (0, .class_ 4), (0, u "java/lang/Object")] 32

/-- java/lang/constant/ConstantDesc -/
def k6 : Class := { plain "java/lang/constant/ConstantDesc" (some 0) with
  accessFlags := 1537
  interfaces := #[]
  cf := some (fileOf pool6 1 #[] #[] 1537 3 #[] #[])
  fields := #[]
  methods := #[]
  instanceTypes := #[]
  staticTypes := #[]
  resolved := Array.replicate 37 none
  statics := none }

def pool7 : Array CpInfo := pool [(1, .methodref 2 3), (0, .class_ 4), (0, .nameAndType 5 6), (0, u "java/lang/Object"), (0, u "<init>"), (0, u "()V"), (0, .string 8), (0, u ""), (0, .fieldref 10 11), (0, .class_ 12), (0, .nameAndType 13 14), (0, u "java/lang/String"), (0, u "value"), (0, u "[B"), (0, .fieldref 10 16), (0, .nameAndType 17 18), (0, u "coder"), (0, u "B"), (2, u "hash"), (0, u "I"), (2, u "hashIsZero"), (0, u "Z"), (0, .methodref 10 28), (0, .nameAndType 5 29), (0, u "([CIILjava/lang/Void;)V"), (8, .fieldref 10 39), (0, .nameAndType 40 26), (0, u "COMPACT_STRINGS"), (1, .class_ 44), (1, u "java/lang/StringUTF16"), (0, u "compress"), (1, .methodref 42 48), (0, .nameAndType 49 50), (0, u "coderFromArrayLen"), (0, u "([BI)B"), (56, .class_ 109), (1, u "java/lang/StringLatin1"), (32, u "()Z"), (34, .methodref 42 178), (0, .nameAndType 45 179), (0, u "([CII)[B"), (154, u "()I"), (0, .methodref 10 336), (0, .nameAndType 17 337), (0, u "()B"), (25, u "([BI)C"), (27, u "(II)V"), (35, u "(I)C"), (64, .methodref 10 493), (0, .nameAndType 494 142), (0, u "isLatin1"), (0, .methodref 107 496), (0, .nameAndType 497 363), (0, u "charAt"), (0, .methodref 42 496), (2, u "checkIndex"), (5, u "length"), (67, .class_ 576), (0, u "java/lang/CharSequence"), (22, u "CASE_INSENSITIVE_ORDER"), (0, u "Ljava/util/Comparator;"), (409, u "([C)V"), (42, .fieldref 1054 1055), (0, .class_ 1056), (0, .nameAndType 1057 1058), (0, u "jdk/internal/util/Preconditions"), (0, u "SIOOBE_FORMATTER"), (0, u "Ljava/util/function/BiFunction;"), (0, .methodref 1054 1060), (0, .nameAndType 501 1061), (0, u "(IILjava/util/function/BiFunction;)I"), (39, u "serialPersistentFields"), (0, u "[Ljava/io/ObjectStreamField;"), (0, .class_ 1104), (0, u "java/lang/String$CaseInsensitiveComparator"), (1, .class_ 1107), (0, u "java/io/Serializable"), (0, .class_ 1109), (0, u "java/lang/Comparable"), (0, .class_ 1111), (0, u "java/lang/constant/Constable"), (0, .class_ 1113), (0, u "java/lang/constant/ConstantDesc"), (2, u "serialVersionUID"), (0, u "J"), (3, u "REPL"), (0, u "C"), (2, u "LATIN1"), (1, u "UTF16")] 323

def k7m0 : Method := { name := "<init>", desc := "()V", sig := { parameters := [], returnType := none }, accessFlags := 1, code := none }
def k7c1 : Code := { maxStack := 5, maxLocals := 2, code := jdk_42_method_3_code, exceptionTable := #[], attributes := #[] }
def k7m1 : Method := { name := "<init>", desc := "([C)V", sig := { parameters := [(.array .char)], returnType := none }, accessFlags := 1, code := some k7c1 }
def k7c2 : Code := { maxStack := 2, maxLocals := 1, code := jdk_42_method_54_code, exceptionTable := #[], attributes := #[] }
def k7m2 : Method := { name := "length", desc := "()I", sig := { parameters := [], returnType := some .int }, accessFlags := 1, code := some k7c2 }
def k7c3 : Code := { maxStack := 2, maxLocals := 2, code := jdk_42_method_56_code, exceptionTable := #[], attributes := #[] }
def k7m3 : Method := { name := "charAt", desc := "(I)C", sig := { parameters := [.int], returnType := some .char }, accessFlags := 1, code := some k7c3 }
def k7c4 : Code := { maxStack := 4, maxLocals := 6, code := jdk_42_method_149_code, exceptionTable := #[], attributes := #[] }
def k7m4 : Method := { name := "<init>", desc := "([CIILjava/lang/Void;)V", sig := { parameters := [(.array .char), .int, .int, (.object "java/lang/Void")], returnType := none }, accessFlags := 2, code := some k7c4 }
def k7c5 : Code := { maxStack := 1, maxLocals := 1, code := jdk_42_method_152_code, exceptionTable := #[], attributes := #[] }
def k7m5 : Method := { name := "coder", desc := "()B", sig := { parameters := [], returnType := some .byte }, accessFlags := 0, code := some k7c5 }
def k7c6 : Code := { maxStack := 1, maxLocals := 1, code := jdk_42_method_154_code, exceptionTable := #[], attributes := #[] }
def k7m6 : Method := { name := "isLatin1", desc := "()Z", sig := { parameters := [], returnType := some .boolean }, accessFlags := 0, code := some k7c6 }
def k7c7 : Code := { maxStack := 3, maxLocals := 2, code := jdk_42_method_155_code, exceptionTable := #[], attributes := #[] }
def k7m7 : Method := { name := "checkIndex", desc := "(II)V", sig := { parameters := [.int, .int], returnType := none }, accessFlags := 8, code := some k7c7 }
/-- java/lang/String -/
def k7 : Class := { plain "java/lang/String" (some 0) with
  accessFlags := 49
  interfaces := #[2, 3, 4, 5, 6]
  cf := some (fileOf pool7 10 #[.nestMembers #[1103]] #[{ accessFlags := 1, nameIndex := 5, descriptorIndex := 6, attributes := #[] }, { accessFlags := 1, nameIndex := 5, descriptorIndex := 1010, attributes := #[] }, { accessFlags := 1, nameIndex := 507, descriptorIndex := 334, attributes := #[] }, { accessFlags := 1, nameIndex := 497, descriptorIndex := 427, attributes := #[] }, { accessFlags := 2, nameIndex := 5, descriptorIndex := 29, attributes := #[] }, { accessFlags := 0, nameIndex := 17, descriptorIndex := 337, attributes := #[] }, { accessFlags := 0, nameIndex := 494, descriptorIndex := 142, attributes := #[] }, { accessFlags := 8, nameIndex := 501, descriptorIndex := 391, attributes := #[] }] 49 2 #[1106, 1108, 575, 1110, 1112] #[{ accessFlags := 18, nameIndex := 13, descriptorIndex := 14, attributes := #[] }, { accessFlags := 18, nameIndex := 17, descriptorIndex := 18, attributes := #[] }, { accessFlags := 2, nameIndex := 21, descriptorIndex := 22, attributes := #[] }, { accessFlags := 2, nameIndex := 25, descriptorIndex := 26, attributes := #[] }, { accessFlags := 26, nameIndex := 1116, descriptorIndex := 1117, attributes := #[] }, { accessFlags := 24, nameIndex := 40, descriptorIndex := 26, attributes := #[] }, { accessFlags := 26, nameIndex := 1101, descriptorIndex := 1102, attributes := #[] }, { accessFlags := 26, nameIndex := 1121, descriptorIndex := 1122, attributes := #[] }, { accessFlags := 25, nameIndex := 599, descriptorIndex := 600, attributes := #[] }, { accessFlags := 24, nameIndex := 1125, descriptorIndex := 18, attributes := #[] }, { accessFlags := 24, nameIndex := 1127, descriptorIndex := 18, attributes := #[] }])
  fields := #[{ name := "value", type := (.array .byte), accessFlags := 18, slot := 0, constantValue := 0 }, { name := "coder", type := .byte, accessFlags := 18, slot := 1, constantValue := 0 }, { name := "hash", type := .int, accessFlags := 2, slot := 2, constantValue := 0 }, { name := "hashIsZero", type := .boolean, accessFlags := 2, slot := 3, constantValue := 0 }, { name := "serialVersionUID", type := .long, accessFlags := 26, slot := 0, constantValue := 0 }, { name := "COMPACT_STRINGS", type := .boolean, accessFlags := 24, slot := 1, constantValue := 0 }, { name := "serialPersistentFields", type := (.array (.object "java/io/ObjectStreamField")), accessFlags := 26, slot := 2, constantValue := 0 }, { name := "REPL", type := .char, accessFlags := 26, slot := 3, constantValue := 0 }, { name := "CASE_INSENSITIVE_ORDER", type := (.object "java/util/Comparator"), accessFlags := 25, slot := 4, constantValue := 0 }, { name := "LATIN1", type := .byte, accessFlags := 24, slot := 5, constantValue := 0 }, { name := "UTF16", type := .byte, accessFlags := 24, slot := 6, constantValue := 0 }]
  methods := #[k7m0, k7m1, k7m2, k7m3, k7m4, k7m5, k7m6, k7m7]
  instanceTypes := #[(.array .byte), .byte, .int, .boolean]
  staticTypes := #[.long, .boolean, (.array (.object "java/io/ObjectStreamField")), .char, (.object "java/util/Comparator"), .byte, .byte]
  resolved := Array.replicate 1451 none
  statics := some 0 }

def pool8 : Array CpInfo := pool [(2, .class_ 4), (1, u "java/lang/Object"), (5, .class_ 12), (1, u "com/example/oxpecker/oxpecker/http/HttpInput"), (0, u "held"), (0, u "J"), (2, u "in"), (0, u "Ljava/io/InputStream;"), (2, u "buffers"), (0, u "Lcom/example/oxpecker/oxpecker/http/Buffers;"), (2, u "received"), (12, u "()I"), (8, u "buffer"), (0, u "[B"), (2, u "limit"), (0, u "I"), (6, u "position"), (8, u "(I)Z"), (17, .methodref 10 87), (0, .nameAndType 88 68), (0, u "isToken"), (0, .class_ 90), (0, u "com/example/oxpecker/oxpecker/http/HttpInput$HeadException"), (33, .class_ 125), (0, u "com/example/oxpecker/oxpecker/http/HttpInput$Head"), (30, .class_ 157), (0, u "java/lang/String"), (3, .methodref 156 162), (0, .nameAndType 163 38), (0, u "length"), (0, .methodref 156 165), (0, .nameAndType 166 167), (0, u "charAt"), (0, u "(I)C"), (11, .class_ 180), (0, u "com/example/oxpecker/oxpecker/http/HttpInput$FixedBody"), (3, .class_ 185), (0, u "com/example/oxpecker/oxpecker/http/HttpInput$ChunkedBody"), (3, .class_ 190), (0, u "com/example/oxpecker/oxpecker/http/HttpInput$RestBody"), (10, u "WORDS"), (0, u "Ljava/lang/invoke/VarHandle;"), (59, .fieldref 10 263), (0, .nameAndType 264 265), (0, u "TOKEN"), (0, u "[Z"), (3, u "(Ljava/lang/String;I)I"), (2, u "tokenEnd"), (33, u "CHUNK_LINE_LIMIT"), (2, u "CHUNK_SIZE_LIMIT"), (2, u "TRAILER_LIMIT"), (1, u "ONES"), (0, u "SPACES"), (0, u "DELETES"), (0, u "HIGH_BITS"), (28, .class_ 347), (0, u "com/example/oxpecker/oxpecker/http/HttpInput$Body")] 23

def k8c0 : Code := { maxStack := 2, maxLocals := 1, code := prog_11_method_22_code, exceptionTable := #[], attributes := #[] }
def k8m0 : Method := { name := "isToken", desc := "(I)Z", sig := { parameters := [.int], returnType := some .boolean }, accessFlags := 8, code := some k8c0 }
def k8c1 : Code := { maxStack := 2, maxLocals := 3, code := prog_11_method_23_code, exceptionTable := #[], attributes := #[] }
def k8m1 : Method := { name := "tokenEnd", desc := "(Ljava/lang/String;I)I", sig := { parameters := [(.object "java/lang/String"), .int], returnType := some .int }, accessFlags := 8, code := some k8c1 }
/-- com/example/oxpecker/oxpecker/http/HttpInput -/
def k8 : Class := { plain "com/example/oxpecker/oxpecker/http/HttpInput" (some 0) with
  accessFlags := 48
  interfaces := #[]
  cf := some (fileOf pool8 10 #[.nestMembers #[189, 184, 179, 346, 89, 124]] #[{ accessFlags := 8, nameIndex := 88, descriptorIndex := 68, attributes := #[] }, { accessFlags := 8, nameIndex := 272, descriptorIndex := 269, attributes := #[] }] 48 2 #[] #[{ accessFlags := 26, nameIndex := 306, descriptorIndex := 52, attributes := #[] }, { accessFlags := 26, nameIndex := 309, descriptorIndex := 14, attributes := #[] }, { accessFlags := 26, nameIndex := 312, descriptorIndex := 52, attributes := #[] }, { accessFlags := 26, nameIndex := 264, descriptorIndex := 265, attributes := #[] }, { accessFlags := 26, nameIndex := 201, descriptorIndex := 202, attributes := #[] }, { accessFlags := 26, nameIndex := 314, descriptorIndex := 14, attributes := #[] }, { accessFlags := 26, nameIndex := 315, descriptorIndex := 14, attributes := #[] }, { accessFlags := 26, nameIndex := 316, descriptorIndex := 14, attributes := #[] }, { accessFlags := 26, nameIndex := 317, descriptorIndex := 14, attributes := #[] }, { accessFlags := 18, nameIndex := 17, descriptorIndex := 18, attributes := #[] }, { accessFlags := 18, nameIndex := 21, descriptorIndex := 22, attributes := #[] }, { accessFlags := 2, nameIndex := 47, descriptorIndex := 48, attributes := #[] }, { accessFlags := 2, nameIndex := 59, descriptorIndex := 52, attributes := #[] }, { accessFlags := 2, nameIndex := 51, descriptorIndex := 52, attributes := #[] }, { accessFlags := 2, nameIndex := 25, descriptorIndex := 14, attributes := #[] }, { accessFlags := 2, nameIndex := 13, descriptorIndex := 14, attributes := #[] }])
  fields := #[{ name := "CHUNK_LINE_LIMIT", type := .int, accessFlags := 26, slot := 0, constantValue := 0 }, { name := "CHUNK_SIZE_LIMIT", type := .long, accessFlags := 26, slot := 1, constantValue := 0 }, { name := "TRAILER_LIMIT", type := .int, accessFlags := 26, slot := 2, constantValue := 0 }, { name := "TOKEN", type := (.array .boolean), accessFlags := 26, slot := 3, constantValue := 0 }, { name := "WORDS", type := (.object "java/lang/invoke/VarHandle"), accessFlags := 26, slot := 4, constantValue := 0 }, { name := "ONES", type := .long, accessFlags := 26, slot := 5, constantValue := 0 }, { name := "SPACES", type := .long, accessFlags := 26, slot := 6, constantValue := 0 }, { name := "DELETES", type := .long, accessFlags := 26, slot := 7, constantValue := 0 }, { name := "HIGH_BITS", type := .long, accessFlags := 26, slot := 8, constantValue := 0 }, { name := "in", type := (.object "java/io/InputStream"), accessFlags := 18, slot := 0, constantValue := 0 }, { name := "buffers", type := (.object "com/example/oxpecker/oxpecker/http/Buffers"), accessFlags := 18, slot := 1, constantValue := 0 }, { name := "buffer", type := (.array .byte), accessFlags := 2, slot := 2, constantValue := 0 }, { name := "position", type := .int, accessFlags := 2, slot := 3, constantValue := 0 }, { name := "limit", type := .int, accessFlags := 2, slot := 4, constantValue := 0 }, { name := "received", type := .long, accessFlags := 2, slot := 5, constantValue := 0 }, { name := "held", type := .long, accessFlags := 2, slot := 6, constantValue := 0 }]
  methods := #[k8m0, k8m1]
  instanceTypes := #[(.object "java/io/InputStream"), (.object "com/example/oxpecker/oxpecker/http/Buffers"), (.array .byte), .int, .int, .long, .long]
  staticTypes := #[.int, .long, .int, (.array .boolean), (.object "java/lang/invoke/VarHandle"), .long, .long, .long, .long]
  resolved := Array.replicate 371 none
  statics := some 1 }

def pool9 : Array CpInfo := pool [(3, .class_ 4), (0, u "java/lang/String"), (1, .class_ 8), (1, u "java/lang/Object"), (0, u "<init>"), (0, u "()V"), (0, .methodref 12 13), (0, .class_ 14), (0, .nameAndType 15 16), (0, u "java/lang/StringUTF16"), (0, u "newBytesLength"), (0, u "(I)I"), (3, .integer 1073741823), (23, .fieldref 12 45), (0, .nameAndType 46 47), (0, u "$assertionsDisabled"), (0, u "Z"), (0, .methodref 12 49), (0, .nameAndType 50 51), (0, u "length"), (0, u "([B)I"), (7, .fieldref 12 60), (0, .nameAndType 61 62), (0, u "HI_BYTE_SHIFT"), (0, u "I"), (0, .fieldref 12 64), (0, .nameAndType 65 62), (0, u "LO_BYTE_SHIFT"), (1, .methodref 12 68), (0, .nameAndType 69 70), (0, u "checkIndex"), (0, u "(I[B)V"), (0, .methodref 12 72), (0, .nameAndType 73 74), (0, u "getChar"), (0, u "([BI)C"), (32, .methodref 12 108), (0, .nameAndType 109 110), (0, u "newBytesFor"), (0, u "(I)[B"), (0, .methodref 12 112), (0, .nameAndType 113 114), (0, u "putChar"), (0, u "([BII)V"), (0, .methodref 12 116), (0, .nameAndType 117 118), (0, u "compress"), (0, u "([CI[BII)I"), (0, .methodref 12 120), (0, .nameAndType 121 122), (0, u "toBytes"), (0, u "([CII)[B"), (138, u "coderFromArrayLen"), (0, u "([BI)B"), (106, .class_ 371), (1, u "java/lang/StringUTF16$LinesSpliterator"), (20, u "charAt"), (21, .methodref 3 415), (0, .nameAndType 69 416), (0, u "(II)V"), (13, u "MAX_LENGTH"), (196, .class_ 628), (0, u "java/lang/StringUTF16$CodePointsSpliterator"), (0, .class_ 630), (0, u "java/lang/StringUTF16$CharsSpliterator")] 4

def k9m0 : Method := { name := "<init>", desc := "()V", sig := { parameters := [], returnType := none }, accessFlags := 0, code := none }
def k9c1 : Code := { maxStack := 1, maxLocals := 1, code := jdk_52_method_2_code, exceptionTable := #[], attributes := #[] }
def k9m1 : Method := { name := "newBytesFor", desc := "(I)[B", sig := { parameters := [.int], returnType := some (.array .byte) }, accessFlags := 9, code := some k9c1 }
def k9c2 : Code := { maxStack := 4, maxLocals := 1, code := jdk_52_method_3_code, exceptionTable := #[], attributes := #[] }
def k9m2 : Method := { name := "newBytesLength", desc := "(I)I", sig := { parameters := [.int], returnType := some .int }, accessFlags := 9, code := some k9c2 }
def k9c3 : Code := { maxStack := 4, maxLocals := 3, code := jdk_52_method_4_code, exceptionTable := #[], attributes := #[] }
def k9m3 : Method := { name := "putChar", desc := "([BII)V", sig := { parameters := [(.array .byte), .int, .int], returnType := none }, accessFlags := 8, code := some k9c3 }
def k9c4 : Code := { maxStack := 3, maxLocals := 2, code := jdk_52_method_5_code, exceptionTable := #[], attributes := #[] }
def k9m4 : Method := { name := "getChar", desc := "([BI)C", sig := { parameters := [(.array .byte), .int], returnType := some .char }, accessFlags := 8, code := some k9c4 }
def k9c5 : Code := { maxStack := 2, maxLocals := 1, code := jdk_52_method_6_code, exceptionTable := #[], attributes := #[] }
def k9m5 : Method := { name := "length", desc := "([B)I", sig := { parameters := [(.array .byte)], returnType := some .int }, accessFlags := 9, code := some k9c5 }
def k9c6 : Code := { maxStack := 4, maxLocals := 5, code := jdk_52_method_14_code, exceptionTable := #[], attributes := #[] }
def k9m6 : Method := { name := "toBytes", desc := "([CII)[B", sig := { parameters := [(.array .char), .int, .int], returnType := some (.array .byte) }, accessFlags := 9, code := some k9c6 }
def k9c7 : Code := { maxStack := 2, maxLocals := 2, code := jdk_52_method_15_code, exceptionTable := #[], attributes := #[] }
def k9m7 : Method := { name := "coderFromArrayLen", desc := "([BI)B", sig := { parameters := [(.array .byte), .int], returnType := some .byte }, accessFlags := 8, code := some k9c7 }
def k9c8 : Code := { maxStack := 5, maxLocals := 6, code := jdk_52_method_16_code, exceptionTable := #[], attributes := #[] }
def k9m8 : Method := { name := "compress", desc := "([CII)[B", sig := { parameters := [(.array .char), .int, .int], returnType := some (.array .byte) }, accessFlags := 9, code := some k9c8 }
def k9c9 : Code := { maxStack := 3, maxLocals := 7, code := jdk_52_method_21_code, exceptionTable := #[], attributes := #[] }
def k9m9 : Method := { name := "compress", desc := "([CI[BII)I", sig := { parameters := [(.array .char), .int, (.array .byte), .int, .int], returnType := some .int }, accessFlags := 9, code := some k9c9 }
def k9c10 : Code := { maxStack := 2, maxLocals := 2, code := jdk_52_method_83_code, exceptionTable := #[], attributes := #[] }
def k9m10 : Method := { name := "charAt", desc := "([BI)C", sig := { parameters := [(.array .byte), .int], returnType := some .char }, accessFlags := 9, code := some k9c10 }
def k9c11 : Code := { maxStack := 2, maxLocals := 2, code := jdk_52_method_91_code, exceptionTable := #[], attributes := #[] }
def k9m11 : Method := { name := "checkIndex", desc := "(I[B)V", sig := { parameters := [.int, (.array .byte)], returnType := none }, accessFlags := 9, code := some k9c11 }
/-- java/lang/StringUTF16 -/
def k9 : Class := { plain "java/lang/StringUTF16" (some 0) with
  accessFlags := 48
  interfaces := #[]
  cf := some (fileOf pool9 12 #[.nestMembers #[627, 629, 369]] #[{ accessFlags := 0, nameIndex := 9, descriptorIndex := 10, attributes := #[] }, { accessFlags := 9, nameIndex := 109, descriptorIndex := 110, attributes := #[] }, { accessFlags := 9, nameIndex := 15, descriptorIndex := 16, attributes := #[] }, { accessFlags := 8, nameIndex := 113, descriptorIndex := 114, attributes := #[] }, { accessFlags := 8, nameIndex := 73, descriptorIndex := 74, attributes := #[] }, { accessFlags := 9, nameIndex := 50, descriptorIndex := 51, attributes := #[] }, { accessFlags := 9, nameIndex := 121, descriptorIndex := 122, attributes := #[] }, { accessFlags := 8, nameIndex := 261, descriptorIndex := 262, attributes := #[] }, { accessFlags := 9, nameIndex := 117, descriptorIndex := 122, attributes := #[] }, { accessFlags := 9, nameIndex := 117, descriptorIndex := 118, attributes := #[] }, { accessFlags := 9, nameIndex := 392, descriptorIndex := 74, attributes := #[] }, { accessFlags := 9, nameIndex := 69, descriptorIndex := 70, attributes := #[] }] 48 6 #[] #[{ accessFlags := 26, nameIndex := 61, descriptorIndex := 62, attributes := #[] }, { accessFlags := 26, nameIndex := 65, descriptorIndex := 62, attributes := #[] }, { accessFlags := 24, nameIndex := 430, descriptorIndex := 62, attributes := #[] }, { accessFlags := 4120, nameIndex := 46, descriptorIndex := 47, attributes := #[] }])
  fields := #[{ name := "HI_BYTE_SHIFT", type := .int, accessFlags := 26, slot := 0, constantValue := 0 }, { name := "LO_BYTE_SHIFT", type := .int, accessFlags := 26, slot := 1, constantValue := 0 }, { name := "MAX_LENGTH", type := .int, accessFlags := 24, slot := 2, constantValue := 0 }, { name := "$assertionsDisabled", type := .boolean, accessFlags := 4120, slot := 3, constantValue := 0 }]
  methods := #[k9m0, k9m1, k9m2, k9m3, k9m4, k9m5, k9m6, k9m7, k9m8, k9m9, k9m10, k9m11]
  instanceTypes := #[]
  staticTypes := #[.int, .int, .int, .boolean]
  resolved := Array.replicate 635 none
  statics := some 2 }

def pool10 : Array CpInfo := pool [(1, .class_ 2), (0, u "java/lang/String"), (1, .class_ 6), (1, u "java/lang/Object"), (0, u "<init>"), (0, u "()V"), (0, .methodref 1 10), (0, .nameAndType 11 12), (0, u "checkIndex"), (0, u "(II)V"), (1, .class_ 16), (1, u "java/lang/StringLatin1"), (36, u "([BI)C"), (67, u "$assertionsDisabled"), (0, u "Z"), (98, .class_ 223), (1, u "java/lang/StringLatin1$LinesSpliterator"), (28, u "charAt"), (137, .class_ 391), (0, u "java/lang/StringLatin1$CharsSpliterator")] 3

def k10m0 : Method := { name := "<init>", desc := "()V", sig := { parameters := [], returnType := none }, accessFlags := 0, code := none }
def k10c1 : Code := { maxStack := 2, maxLocals := 2, code := jdk_43_method_2_code, exceptionTable := #[], attributes := #[] }
def k10m1 : Method := { name := "charAt", desc := "([BI)C", sig := { parameters := [(.array .byte), .int], returnType := some .char }, accessFlags := 9, code := some k10c1 }
/-- java/lang/StringLatin1 -/
def k10 : Class := { plain "java/lang/StringLatin1" (some 0) with
  accessFlags := 48
  interfaces := #[]
  cf := some (fileOf pool10 14 #[.nestMembers #[390, 221]] #[{ accessFlags := 0, nameIndex := 7, descriptorIndex := 8, attributes := #[] }, { accessFlags := 9, nameIndex := 252, descriptorIndex := 53, attributes := #[] }] 48 4 #[] #[{ accessFlags := 4120, nameIndex := 121, descriptorIndex := 122, attributes := #[] }])
  fields := #[{ name := "$assertionsDisabled", type := .boolean, accessFlags := 4120, slot := 0, constantValue := 0 }]
  methods := #[k10m0, k10m1]
  instanceTypes := #[]
  staticTypes := #[.boolean]
  resolved := Array.replicate 395 none
  statics := none }

def pool11 : Array CpInfo := pool [(2, .class_ 4), (1, u "java/lang/Object"), (0, u "<init>"), (0, u "()V"), (17, .class_ 26), (1, u "jdk/internal/util/Preconditions"), (6, u "checkIndex"), (21, .class_ 56), (0, u "jdk/internal/util/Preconditions$4"), (57, .class_ 115), (0, u "jdk/internal/util/Preconditions$1"), (7, u "SIOOBE_FORMATTER"), (0, u "Ljava/util/function/BiFunction;"), (0, .class_ 126), (0, u "jdk/internal/util/Preconditions$2"), (3, u "AIOOBE_FORMATTER"), (0, .class_ 132), (0, u "jdk/internal/util/Preconditions$3"), (3, u "IOOBE_FORMATTER"), (41, u "(IILjava/util/function/BiFunction;)I")] 15

def k11m0 : Method := { name := "<init>", desc := "()V", sig := { parameters := [], returnType := none }, accessFlags := 1, code := none }
def k11c1 : Code := { maxStack := 3, maxLocals := 3, code := jdk_41_method_11_code, exceptionTable := #[], attributes := #[] }
def k11m1 : Method := { name := "checkIndex", desc := "(IILjava/util/function/BiFunction;)I", sig := { parameters := [.int, .int, (.object "java/util/function/BiFunction")], returnType := some .int }, accessFlags := 9, code := some k11c1 }
/-- jdk/internal/util/Preconditions -/
def k11 : Class := { plain "jdk/internal/util/Preconditions" (some 0) with
  accessFlags := 33
  interfaces := #[]
  cf := some (fileOf pool11 24 #[.nestMembers #[55, 131, 125, 114]] #[{ accessFlags := 1, nameIndex := 5, descriptorIndex := 6, attributes := #[] }, { accessFlags := 9, nameIndex := 33, descriptorIndex := 178, attributes := #[] }] 33 2 #[] #[{ accessFlags := 25, nameIndex := 123, descriptorIndex := 124, attributes := #[] }, { accessFlags := 25, nameIndex := 130, descriptorIndex := 124, attributes := #[] }, { accessFlags := 25, nameIndex := 136, descriptorIndex := 124, attributes := #[] }])
  fields := #[{ name := "SIOOBE_FORMATTER", type := (.object "java/util/function/BiFunction"), accessFlags := 25, slot := 0, constantValue := 0 }, { name := "AIOOBE_FORMATTER", type := (.object "java/util/function/BiFunction"), accessFlags := 25, slot := 1, constantValue := 0 }, { name := "IOOBE_FORMATTER", type := (.object "java/util/function/BiFunction"), accessFlags := 25, slot := 2, constantValue := 0 }]
  methods := #[k11m0, k11m1]
  instanceTypes := #[]
  staticTypes := #[(.object "java/util/function/BiFunction"), (.object "java/util/function/BiFunction"), (.object "java/util/function/BiFunction")]
  resolved := Array.replicate 194 none
  statics := some 3 }

def pool12 : Array CpInfo := pool [(9, u "<init>"), (6, .class_ 18), (1, u "java/lang/Object"), (0, u "()V"), (1, .class_ 23), (1, u "jdk/internal/util/ArraysSupport"), (0, u "LOG2_ARRAY_LONG_INDEX_SCALE"), (0, u "I"), (2, u "U"), (0, u "Ljdk/internal/misc/Unsafe;"), (8, u "BIG_ENDIAN"), (0, u "Z"), (8, u "LOG2_BYTE_BIT_SIZE"), (4, u "LOG2_ARRAY_INT_INDEX_SCALE"), (54, u "JLA"), (0, u "Ljdk/internal/access/JavaLangAccess;"), (11, u "LOG2_ARRAY_BOOLEAN_INDEX_SCALE"), (9, u "LOG2_ARRAY_BYTE_INDEX_SCALE"), (5, u "LOG2_ARRAY_CHAR_INDEX_SCALE"), (5, u "LOG2_ARRAY_SHORT_INDEX_SCALE"), (18, u "LOG2_ARRAY_FLOAT_INDEX_SCALE"), (24, u "LOG2_ARRAY_DOUBLE_INDEX_SCALE"), (89, u "T_BOOLEAN"), (2, u "T_CHAR"), (1, u "T_FLOAT"), (1, u "T_DOUBLE"), (1, u "T_BYTE"), (1, u "T_SHORT"), (1, u "T_INT"), (1, u "T_LONG"), (1, u "SOFT_MAX_ARRAY_LENGTH")] 83

def k12m0 : Method := { name := "<init>", desc := "()V", sig := { parameters := [], returnType := none }, accessFlags := 2, code := none }
/-- jdk/internal/util/ArraysSupport -/
def k12 : Class := { plain "jdk/internal/util/ArraysSupport" (some 0) with
  accessFlags := 33
  interfaces := #[]
  cf := some (fileOf pool12 21 #[] #[{ accessFlags := 2, nameIndex := 9, descriptorIndex := 19, attributes := #[] }] 33 16 #[] #[{ accessFlags := 24, nameIndex := 28, descriptorIndex := 29, attributes := #[] }, { accessFlags := 26, nameIndex := 38, descriptorIndex := 39, attributes := #[] }, { accessFlags := 25, nameIndex := 121, descriptorIndex := 25, attributes := #[] }, { accessFlags := 25, nameIndex := 131, descriptorIndex := 25, attributes := #[] }, { accessFlags := 25, nameIndex := 137, descriptorIndex := 25, attributes := #[] }, { accessFlags := 25, nameIndex := 143, descriptorIndex := 25, attributes := #[] }, { accessFlags := 25, nameIndex := 53, descriptorIndex := 25, attributes := #[] }, { accessFlags := 25, nameIndex := 24, descriptorIndex := 25, attributes := #[] }, { accessFlags := 25, nameIndex := 162, descriptorIndex := 25, attributes := #[] }, { accessFlags := 25, nameIndex := 187, descriptorIndex := 25, attributes := #[] }, { accessFlags := 26, nameIndex := 48, descriptorIndex := 25, attributes := #[] }, { accessFlags := 25, nameIndex := 277, descriptorIndex := 25, attributes := #[] }, { accessFlags := 25, nameIndex := 280, descriptorIndex := 25, attributes := #[] }, { accessFlags := 25, nameIndex := 282, descriptorIndex := 25, attributes := #[] }, { accessFlags := 25, nameIndex := 284, descriptorIndex := 25, attributes := #[] }, { accessFlags := 25, nameIndex := 286, descriptorIndex := 25, attributes := #[] }, { accessFlags := 25, nameIndex := 288, descriptorIndex := 25, attributes := #[] }, { accessFlags := 25, nameIndex := 290, descriptorIndex := 25, attributes := #[] }, { accessFlags := 25, nameIndex := 292, descriptorIndex := 25, attributes := #[] }, { accessFlags := 26, nameIndex := 108, descriptorIndex := 109, attributes := #[] }, { accessFlags := 25, nameIndex := 294, descriptorIndex := 25, attributes := #[] }])
  fields := #[{ name := "U", type := (.object "jdk/internal/misc/Unsafe"), accessFlags := 24, slot := 0, constantValue := 0 }, { name := "BIG_ENDIAN", type := .boolean, accessFlags := 26, slot := 1, constantValue := 0 }, { name := "LOG2_ARRAY_BOOLEAN_INDEX_SCALE", type := .int, accessFlags := 25, slot := 2, constantValue := 0 }, { name := "LOG2_ARRAY_BYTE_INDEX_SCALE", type := .int, accessFlags := 25, slot := 3, constantValue := 0 }, { name := "LOG2_ARRAY_CHAR_INDEX_SCALE", type := .int, accessFlags := 25, slot := 4, constantValue := 0 }, { name := "LOG2_ARRAY_SHORT_INDEX_SCALE", type := .int, accessFlags := 25, slot := 5, constantValue := 0 }, { name := "LOG2_ARRAY_INT_INDEX_SCALE", type := .int, accessFlags := 25, slot := 6, constantValue := 0 }, { name := "LOG2_ARRAY_LONG_INDEX_SCALE", type := .int, accessFlags := 25, slot := 7, constantValue := 0 }, { name := "LOG2_ARRAY_FLOAT_INDEX_SCALE", type := .int, accessFlags := 25, slot := 8, constantValue := 0 }, { name := "LOG2_ARRAY_DOUBLE_INDEX_SCALE", type := .int, accessFlags := 25, slot := 9, constantValue := 0 }, { name := "LOG2_BYTE_BIT_SIZE", type := .int, accessFlags := 26, slot := 10, constantValue := 0 }, { name := "T_BOOLEAN", type := .int, accessFlags := 25, slot := 11, constantValue := 0 }, { name := "T_CHAR", type := .int, accessFlags := 25, slot := 12, constantValue := 0 }, { name := "T_FLOAT", type := .int, accessFlags := 25, slot := 13, constantValue := 0 }, { name := "T_DOUBLE", type := .int, accessFlags := 25, slot := 14, constantValue := 0 }, { name := "T_BYTE", type := .int, accessFlags := 25, slot := 15, constantValue := 0 }, { name := "T_SHORT", type := .int, accessFlags := 25, slot := 16, constantValue := 0 }, { name := "T_INT", type := .int, accessFlags := 25, slot := 17, constantValue := 0 }, { name := "T_LONG", type := .int, accessFlags := 25, slot := 18, constantValue := 0 }, { name := "JLA", type := (.object "jdk/internal/access/JavaLangAccess"), accessFlags := 26, slot := 19, constantValue := 0 }, { name := "SOFT_MAX_ARRAY_LENGTH", type := .int, accessFlags := 25, slot := 20, constantValue := 0 }]
  methods := #[k12m0]
  instanceTypes := #[]
  staticTypes := #[(.object "jdk/internal/misc/Unsafe"), .boolean, .int, .int, .int, .int, .int, .int, .int, .int, .int, .int, .int, .int, .int, .int, .int, .int, .int, (.object "jdk/internal/access/JavaLangAccess"), .int]
  resolved := Array.replicate 378 none
  statics := none }

def pool13 : Array CpInfo := pool [(1, u "java/lang/Cloneable"), (0, .class_ 1), (0, u "java/lang/Object"), (0, .class_ 3)] 3

/-- java/lang/Cloneable -/
def k13 : Class := { plain "java/lang/Cloneable" (some 0) with
  accessFlags := 1537
  interfaces := #[]
  cf := some (fileOf pool13 2 #[] #[] 1537 4 #[] #[])
  fields := #[]
  methods := #[]
  instanceTypes := #[]
  staticTypes := #[]
  resolved := Array.replicate 8 none
  statics := none }

/-- the primitive boolean -/
def k14 : Class := { plain "boolean" none with kind := .primitive 'Z', accessFlags := 0x411 }
/-- [Z -/
def k15 : Class := { plain "[Z" (some 0) with kind := .array 14 .boolean, interfaces := #[13, 2], accessFlags := 1041 }

/-- the primitive byte -/
def k16 : Class := { plain "byte" none with kind := .primitive 'B', accessFlags := 0x411 }
/-- [B -/
def k17 : Class := { plain "[B" (some 0) with kind := .array 16 .byte, interfaces := #[13, 2], accessFlags := 1041 }

/-- the primitive char -/
def k18 : Class := { plain "char" none with kind := .primitive 'C', accessFlags := 0x411 }
/-- [C -/
def k19 : Class := { plain "[C" (some 0) with kind := .array 18 .char, interfaces := #[13, 2], accessFlags := 1041 }

/-- the primitive int -/
def k20 : Class := { plain "int" none with kind := .primitive 'I', accessFlags := 0x411 }
/-- [I -/
def k21 : Class := { plain "[I" (some 0) with kind := .array 20 .int, interfaces := #[13, 2], accessFlags := 1041 }

def heap : Heap := #[{ cls := 7, slots := #[.long 0, .int 1, .null, .int 0, .null, .int 0, .int 0], vm := .statics 7 },
  { cls := 8, slots := #[.int 0, .long 0, .int 0, .ref 4, .null, .long 0, .long 0, .long 0, .long 0], vm := .statics 8 },
  { cls := 9, slots := #[.int 0, .int 8, .int 0, .int 1], vm := .statics 9 },
  { cls := 11, slots := #[.null, .null, .null], vm := .statics 11 },
  { cls := 15, slots := #[.int 0, .int 0, .int 0, .int 0, .int 0, .int 0, .int 0, .int 0, .int 0, .int 0, .int 0, .int 0, .int 0, .int 0, .int 0, .int 0, .int 0, .int 0, .int 0, .int 0, .int 0, .int 0, .int 0, .int 0, .int 0, .int 0, .int 0, .int 0, .int 0, .int 0, .int 0, .int 0, .int 0, .int 1, .int 0, .int 1, .int 1, .int 1, .int 1, .int 1, .int 0, .int 0, .int 1, .int 1, .int 0, .int 1, .int 1, .int 0, .int 1, .int 1, .int 1, .int 1, .int 1, .int 1, .int 1, .int 1, .int 1, .int 1, .int 0, .int 0, .int 0, .int 0, .int 0, .int 0, .int 0, .int 1, .int 1, .int 1, .int 1, .int 1, .int 1, .int 1, .int 1, .int 1, .int 1, .int 1, .int 1, .int 1, .int 1, .int 1, .int 1, .int 1, .int 1, .int 1, .int 1, .int 1, .int 1, .int 1, .int 1, .int 1, .int 1, .int 0, .int 0, .int 0, .int 1, .int 1, .int 1, .int 1, .int 1, .int 1, .int 1, .int 1, .int 1, .int 1, .int 1, .int 1, .int 1, .int 1, .int 1, .int 1, .int 1, .int 1, .int 1, .int 1, .int 1, .int 1, .int 1, .int 1, .int 1, .int 1, .int 1, .int 1, .int 1, .int 0, .int 1, .int 0, .int 1, .int 0], vm := .none }]
def classes : Array Class := #[k0, k1, k2, k3, k4, k5, k6, k7, k8, k9, k10, k11, k12, k13, k14, k15, k16, k17, k18, k19, k20, k21]
def interned : List (Array UInt16 × Addr) := []
def slotsUsed : Nat := 151
def theMethod : MethodId := ⟨1, 3⟩
def args0 : Array Value := #[.int 5, .int 7, .int 9, .int 11, .int 13, .int 2]
def aboutOver (below : List Frame) : State where
  vm := { classes := classes, interned := interned.toArray }
  heap := heap
  slotsUsed := slotsUsed
  threads := #[{ frames := .invoking theMethod args0 :: below }]
def below0 : List Frame := [.native { method := ⟨0, 0⟩, args := #[] }]
def about1 : State := aboutOver below0
def p0 : Program := .bare "" "" ""
def e0 : Env := launch0.env 0 0 0
theorem w_frames : about1.frames = Frame.invoking theMethod args0 :: below0 := rfl
set_option maxRecDepth 65536 in
theorem w_args : argsFit about1.vm theMethod args0 = true := by decide +kernel
set_option maxRecDepth 65536 in
theorem w_heap : heapFits about1 = true := by decide +kernel
set_option maxRecDepth 65536 in
theorem w_runnable : about1.curStatus? = some .runnable := by decide +kernel
set_option maxRecDepth 65536 in
theorem w_alone : about1.alone = true := by decide +kernel
set_option maxRecDepth 65536 in
theorem w_named : about1.methodNamed? x = some theMethod := by decide +kernel
set_option maxRecDepth 65536 in
theorem w_hears : about1.hears theMethod below0 = true := by decide +kernel
set_option maxRecDepth 65536 in
theorem w_ripe : about1.ripe theMethod args0 below0 = true := by decide +kernel
theorem w_running : about1.status = .running := rfl
set_option maxRecDepth 65536 in
theorem w_room : about1.hasRoom e0.platform room_1 = true :=
  launch0.hasRoom_least _ room_1 (by decide +kernel) (by decide +kernel) (by decide +kernel) (by decide +kernel) (by decide +kernel) (by decide +kernel)
theorem allAtoms_all (ts : List Jvm.Cond) (a : Array Jvm.Value) (st : Jvm.State) : (allAtoms ts).before a st = ts.all (fun c => c.before a st) := by
  induction ts with
  | nil => rfl
  | cons c t ih =>
    show (Jvm.Cond.and c (allAtoms t)).before a st = _
    rw [Jvm.Cond.before_and, ih, List.all_cons]
def words1 : List Jvm.Cond := Jvm.Cond.code x code maxLocals ret :: tables_1
/-- a 'code' word, met by the world's own term for the bytes: nothing is compared byte by byte -/
theorem code_word {y : MethodName} {bytes : ByteArray} {mx : Nat} {rt : Option FieldType} {a : Array Value} {s : State} {m : MethodId} {meth : Method} {c : Code} (h1 : s.methodNamed? y = some m) (h2 : s.vm.method? m = some meth) (h3 : meth.code = some c) (h4 : c.code = bytes)
    (h5 : (c.maxLocals == mx && c.exceptionTable.isEmpty && decide (c.maxStack ≤ mostOperands) && decide (meth.sig.returnType = rt) && !meth.locks && decide (parseMethodDescriptor y.desc = some meth.sig)) = true) : (Jvm.Cond.code y bytes mx rt).before a s = true := by
  simp only [Bool.and_eq_true, beq_iff_eq, Bool.not_eq_true', decide_eq_true_eq] at h5
  obtain ⟨⟨⟨⟨⟨g1, g2⟩, g3⟩, g4⟩, g5⟩, g6⟩ := h5
  simp [Cond.before, Cond.holds, Cond.value, h1, h2, h3, h4, g1, g2, g3, g4, g5, g6]
def isCode : Jvm.Cond → Bool
  | .code _ _ _ _ => true
  | _ => false
theorem all_split {L : List Jvm.Cond} {P : Jvm.Cond → Bool} (h1 : L.all (fun c => isCode c || P c) = true) (h2 : ∀ c ∈ L.filter isCode, P c = true) : L.all P = true := by
  refine List.all_eq_true.mpr fun c hc => ?_
  have h := List.all_eq_true.mp h1 c hc
  rcases Bool.eq_false_or_eq_true (isCode c) with hi | hi
  · exact h2 c (List.mem_filter.mpr ⟨hc, hi⟩)
  · simpa [hi] using h
set_option maxRecDepth 65536 in
theorem w_c0 : (Jvm.Cond.code x code maxLocals ret).before args0 about1 = true := code_word (m := ⟨1, 3⟩) (meth := k1m3) (c := k1c3) (by decide +kernel) rfl rfl rfl (by decide +kernel)
set_option maxRecDepth 65536 in
theorem w_c1 : (Jvm.Cond.code ({ cls := "com/example/oxpecker/oxpecker/http/HttpInputTokenEndPinLaw", name := "build", desc := "(ICCCC)Ljava/lang/String;" } : Jvm.MethodName) method_3_code (5 : Nat) (Option.some (Jvm.ClassFile.FieldType.object "java/lang/String"))).before args0 about1 = true := code_word (m := ⟨1, 2⟩) (meth := k1m2) (c := k1c2) (by decide +kernel) rfl rfl rfl (by decide +kernel)
set_option maxRecDepth 65536 in
theorem w_c2 : (Jvm.Cond.code ({ cls := "java/lang/String", name := "<init>", desc := "([C)V" } : Jvm.MethodName) jdk_42_method_3_code (2 : Nat) (Option.none : Option Jvm.ClassFile.FieldType)).before args0 about1 = true := code_word (m := ⟨7, 1⟩) (meth := k7m1) (c := k7c1) (by decide +kernel) rfl rfl rfl (by decide +kernel)
set_option maxRecDepth 65536 in
theorem w_c3 : (Jvm.Cond.code ({ cls := "java/lang/String", name := "<init>", desc := "([CIILjava/lang/Void;)V" } : Jvm.MethodName) jdk_42_method_149_code (6 : Nat) (Option.none : Option Jvm.ClassFile.FieldType)).before args0 about1 = true := code_word (m := ⟨7, 4⟩) (meth := k7m4) (c := k7c4) (by decide +kernel) rfl rfl rfl (by decide +kernel)
set_option maxRecDepth 65536 in
theorem w_c4 : (Jvm.Cond.code ({ cls := "java/lang/Object", name := "<init>", desc := "()V" } : Jvm.MethodName) object_method_1_code (1 : Nat) (Option.none : Option Jvm.ClassFile.FieldType)).before args0 about1 = true := code_word (m := ⟨0, 0⟩) (meth := k0m0) (c := k0c0) (by decide +kernel) rfl rfl rfl (by decide +kernel)
set_option maxRecDepth 65536 in
theorem w_c5 : (Jvm.Cond.code ({ cls := "com/example/oxpecker/oxpecker/http/HttpInput", name := "tokenEnd", desc := "(Ljava/lang/String;I)I" } : Jvm.MethodName) prog_11_method_23_code (3 : Nat) (Option.some Jvm.ClassFile.FieldType.int)).before args0 about1 = true := code_word (m := ⟨8, 1⟩) (meth := k8m1) (c := k8c1) (by decide +kernel) rfl rfl rfl (by decide +kernel)
set_option maxRecDepth 65536 in
theorem w_c6 : (Jvm.Cond.code ({ cls := "java/lang/String", name := "length", desc := "()I" } : Jvm.MethodName) jdk_42_method_54_code (1 : Nat) (Option.some Jvm.ClassFile.FieldType.int)).before args0 about1 = true := code_word (m := ⟨7, 2⟩) (meth := k7m2) (c := k7c2) (by decide +kernel) rfl rfl rfl (by decide +kernel)
set_option maxRecDepth 65536 in
theorem w_c7 : (Jvm.Cond.code ({ cls := "java/lang/String", name := "coder", desc := "()B" } : Jvm.MethodName) jdk_42_method_152_code (1 : Nat) (Option.some Jvm.ClassFile.FieldType.byte)).before args0 about1 = true := code_word (m := ⟨7, 5⟩) (meth := k7m5) (c := k7c5) (by decide +kernel) rfl rfl rfl (by decide +kernel)
set_option maxRecDepth 65536 in
theorem w_c8 : (Jvm.Cond.code ({ cls := "java/lang/StringUTF16", name := "compress", desc := "([CII)[B" } : Jvm.MethodName) jdk_52_method_16_code (6 : Nat) (Option.some (Jvm.ClassFile.FieldType.array Jvm.ClassFile.FieldType.byte))).before args0 about1 = true := code_word (m := ⟨9, 8⟩) (meth := k9m8) (c := k9c8) (by decide +kernel) rfl rfl rfl (by decide +kernel)
set_option maxRecDepth 65536 in
theorem w_c9 : (Jvm.Cond.code ({ cls := "java/lang/StringUTF16", name := "compress", desc := "([CI[BII)I" } : Jvm.MethodName) jdk_52_method_21_code (7 : Nat) (Option.some Jvm.ClassFile.FieldType.int)).before args0 about1 = true := code_word (m := ⟨9, 9⟩) (meth := k9m9) (c := k9c9) (by decide +kernel) rfl rfl rfl (by decide +kernel)
set_option maxRecDepth 65536 in
theorem w_c10 : (Jvm.Cond.code ({ cls := "java/lang/StringUTF16", name := "coderFromArrayLen", desc := "([BI)B" } : Jvm.MethodName) jdk_52_method_15_code (2 : Nat) (Option.some Jvm.ClassFile.FieldType.byte)).before args0 about1 = true := code_word (m := ⟨9, 7⟩) (meth := k9m7) (c := k9c7) (by decide +kernel) rfl rfl rfl (by decide +kernel)
set_option maxRecDepth 65536 in
theorem w_c11 : (Jvm.Cond.code ({ cls := "com/example/oxpecker/oxpecker/http/HttpInputTokenEndPinLaw", name := "tchar", desc := "(C)Z" } : Jvm.MethodName) method_2_code (1 : Nat) (Option.some Jvm.ClassFile.FieldType.boolean)).before args0 about1 = true := code_word (m := ⟨1, 1⟩) (meth := k1m1) (c := k1c1) (by decide +kernel) rfl rfl rfl (by decide +kernel)
set_option maxRecDepth 65536 in
theorem w_c12 : (Jvm.Cond.code ({ cls := "java/lang/String", name := "charAt", desc := "(I)C" } : Jvm.MethodName) jdk_42_method_56_code (2 : Nat) (Option.some Jvm.ClassFile.FieldType.char)).before args0 about1 = true := code_word (m := ⟨7, 3⟩) (meth := k7m3) (c := k7c3) (by decide +kernel) rfl rfl rfl (by decide +kernel)
set_option maxRecDepth 65536 in
theorem w_c13 : (Jvm.Cond.code ({ cls := "java/lang/String", name := "isLatin1", desc := "()Z" } : Jvm.MethodName) jdk_42_method_154_code (1 : Nat) (Option.some Jvm.ClassFile.FieldType.boolean)).before args0 about1 = true := code_word (m := ⟨7, 6⟩) (meth := k7m6) (c := k7c6) (by decide +kernel) rfl rfl rfl (by decide +kernel)
set_option maxRecDepth 65536 in
theorem w_c14 : (Jvm.Cond.code ({ cls := "java/lang/StringLatin1", name := "charAt", desc := "([BI)C" } : Jvm.MethodName) jdk_43_method_2_code (2 : Nat) (Option.some Jvm.ClassFile.FieldType.char)).before args0 about1 = true := code_word (m := ⟨10, 1⟩) (meth := k10m1) (c := k10c1) (by decide +kernel) rfl rfl rfl (by decide +kernel)
set_option maxRecDepth 65536 in
theorem w_c15 : (Jvm.Cond.code ({ cls := "java/lang/String", name := "checkIndex", desc := "(II)V" } : Jvm.MethodName) jdk_42_method_155_code (2 : Nat) (Option.none : Option Jvm.ClassFile.FieldType)).before args0 about1 = true := code_word (m := ⟨7, 7⟩) (meth := k7m7) (c := k7c7) (by decide +kernel) rfl rfl rfl (by decide +kernel)
set_option maxRecDepth 65536 in
theorem w_c16 : (Jvm.Cond.code ({ cls := "jdk/internal/util/Preconditions", name := "checkIndex", desc := "(IILjava/util/function/BiFunction;)I" } : Jvm.MethodName) jdk_41_method_11_code (3 : Nat) (Option.some Jvm.ClassFile.FieldType.int)).before args0 about1 = true := code_word (m := ⟨11, 1⟩) (meth := k11m1) (c := k11c1) (by decide +kernel) rfl rfl rfl (by decide +kernel)
set_option maxRecDepth 65536 in
theorem w_c17 : (Jvm.Cond.code ({ cls := "com/example/oxpecker/oxpecker/http/HttpInput", name := "isToken", desc := "(I)Z" } : Jvm.MethodName) prog_11_method_22_code (1 : Nat) (Option.some Jvm.ClassFile.FieldType.boolean)).before args0 about1 = true := code_word (m := ⟨8, 0⟩) (meth := k8m0) (c := k8c0) (by decide +kernel) rfl rfl rfl (by decide +kernel)
set_option maxRecDepth 65536 in
theorem w_c18 : (Jvm.Cond.code ({ cls := "java/lang/StringUTF16", name := "toBytes", desc := "([CII)[B" } : Jvm.MethodName) jdk_52_method_14_code (5 : Nat) (Option.some (Jvm.ClassFile.FieldType.array Jvm.ClassFile.FieldType.byte))).before args0 about1 = true := code_word (m := ⟨9, 6⟩) (meth := k9m6) (c := k9c6) (by decide +kernel) rfl rfl rfl (by decide +kernel)
set_option maxRecDepth 65536 in
theorem w_c19 : (Jvm.Cond.code ({ cls := "java/lang/StringUTF16", name := "newBytesFor", desc := "(I)[B" } : Jvm.MethodName) jdk_52_method_2_code (1 : Nat) (Option.some (Jvm.ClassFile.FieldType.array Jvm.ClassFile.FieldType.byte))).before args0 about1 = true := code_word (m := ⟨9, 1⟩) (meth := k9m1) (c := k9c1) (by decide +kernel) rfl rfl rfl (by decide +kernel)
set_option maxRecDepth 65536 in
theorem w_c20 : (Jvm.Cond.code ({ cls := "java/lang/StringUTF16", name := "newBytesLength", desc := "(I)I" } : Jvm.MethodName) jdk_52_method_3_code (1 : Nat) (Option.some Jvm.ClassFile.FieldType.int)).before args0 about1 = true := code_word (m := ⟨9, 2⟩) (meth := k9m2) (c := k9c2) (by decide +kernel) rfl rfl rfl (by decide +kernel)
set_option maxRecDepth 65536 in
theorem w_c21 : (Jvm.Cond.code ({ cls := "java/lang/StringUTF16", name := "putChar", desc := "([BII)V" } : Jvm.MethodName) jdk_52_method_4_code (3 : Nat) (Option.none : Option Jvm.ClassFile.FieldType)).before args0 about1 = true := code_word (m := ⟨9, 3⟩) (meth := k9m3) (c := k9c3) (by decide +kernel) rfl rfl rfl (by decide +kernel)
set_option maxRecDepth 65536 in
theorem w_c22 : (Jvm.Cond.code ({ cls := "java/lang/StringUTF16", name := "getChar", desc := "([BI)C" } : Jvm.MethodName) jdk_52_method_5_code (2 : Nat) (Option.some Jvm.ClassFile.FieldType.char)).before args0 about1 = true := code_word (m := ⟨9, 4⟩) (meth := k9m4) (c := k9c4) (by decide +kernel) rfl rfl rfl (by decide +kernel)
set_option maxRecDepth 65536 in
theorem w_c23 : (Jvm.Cond.code ({ cls := "java/lang/StringUTF16", name := "charAt", desc := "([BI)C" } : Jvm.MethodName) jdk_52_method_83_code (2 : Nat) (Option.some Jvm.ClassFile.FieldType.char)).before args0 about1 = true := code_word (m := ⟨9, 10⟩) (meth := k9m10) (c := k9c10) (by decide +kernel) rfl rfl rfl (by decide +kernel)
set_option maxRecDepth 65536 in
theorem w_c24 : (Jvm.Cond.code ({ cls := "java/lang/StringUTF16", name := "checkIndex", desc := "(I[B)V" } : Jvm.MethodName) jdk_52_method_91_code (2 : Nat) (Option.none : Option Jvm.ClassFile.FieldType)).before args0 about1 = true := code_word (m := ⟨9, 11⟩) (meth := k9m11) (c := k9c11) (by decide +kernel) rfl rfl rfl (by decide +kernel)
set_option maxRecDepth 65536 in
theorem w_c25 : (Jvm.Cond.code ({ cls := "java/lang/StringUTF16", name := "length", desc := "([B)I" } : Jvm.MethodName) jdk_52_method_6_code (1 : Nat) (Option.some Jvm.ClassFile.FieldType.int)).before args0 about1 = true := code_word (m := ⟨9, 5⟩) (meth := k9m5) (c := k9c5) (by decide +kernel) rfl rfl rfl (by decide +kernel)
def codes1 : List Jvm.Cond := [Jvm.Cond.code x code maxLocals ret, Jvm.Cond.code ({ cls := "com/example/oxpecker/oxpecker/http/HttpInputTokenEndPinLaw", name := "build", desc := "(ICCCC)Ljava/lang/String;" } : Jvm.MethodName) method_3_code (5 : Nat) (Option.some (Jvm.ClassFile.FieldType.object "java/lang/String")), Jvm.Cond.code ({ cls := "java/lang/String", name := "<init>", desc := "([C)V" } : Jvm.MethodName) jdk_42_method_3_code (2 : Nat) (Option.none : Option Jvm.ClassFile.FieldType), Jvm.Cond.code ({ cls := "java/lang/String", name := "<init>", desc := "([CIILjava/lang/Void;)V" } : Jvm.MethodName) jdk_42_method_149_code (6 : Nat) (Option.none : Option Jvm.ClassFile.FieldType), Jvm.Cond.code ({ cls := "java/lang/Object", name := "<init>", desc := "()V" } : Jvm.MethodName) object_method_1_code (1 : Nat) (Option.none : Option Jvm.ClassFile.FieldType), Jvm.Cond.code ({ cls := "com/example/oxpecker/oxpecker/http/HttpInput", name := "tokenEnd", desc := "(Ljava/lang/String;I)I" } : Jvm.MethodName) prog_11_method_23_code (3 : Nat) (Option.some Jvm.ClassFile.FieldType.int), Jvm.Cond.code ({ cls := "java/lang/String", name := "length", desc := "()I" } : Jvm.MethodName) jdk_42_method_54_code (1 : Nat) (Option.some Jvm.ClassFile.FieldType.int), Jvm.Cond.code ({ cls := "java/lang/String", name := "coder", desc := "()B" } : Jvm.MethodName) jdk_42_method_152_code (1 : Nat) (Option.some Jvm.ClassFile.FieldType.byte), Jvm.Cond.code ({ cls := "java/lang/StringUTF16", name := "compress", desc := "([CII)[B" } : Jvm.MethodName) jdk_52_method_16_code (6 : Nat) (Option.some (Jvm.ClassFile.FieldType.array Jvm.ClassFile.FieldType.byte)), Jvm.Cond.code ({ cls := "java/lang/StringUTF16", name := "compress", desc := "([CI[BII)I" } : Jvm.MethodName) jdk_52_method_21_code (7 : Nat) (Option.some Jvm.ClassFile.FieldType.int), Jvm.Cond.code ({ cls := "java/lang/StringUTF16", name := "coderFromArrayLen", desc := "([BI)B" } : Jvm.MethodName) jdk_52_method_15_code (2 : Nat) (Option.some Jvm.ClassFile.FieldType.byte), Jvm.Cond.code ({ cls := "com/example/oxpecker/oxpecker/http/HttpInputTokenEndPinLaw", name := "tchar", desc := "(C)Z" } : Jvm.MethodName) method_2_code (1 : Nat) (Option.some Jvm.ClassFile.FieldType.boolean), Jvm.Cond.code ({ cls := "java/lang/String", name := "charAt", desc := "(I)C" } : Jvm.MethodName) jdk_42_method_56_code (2 : Nat) (Option.some Jvm.ClassFile.FieldType.char), Jvm.Cond.code ({ cls := "java/lang/String", name := "isLatin1", desc := "()Z" } : Jvm.MethodName) jdk_42_method_154_code (1 : Nat) (Option.some Jvm.ClassFile.FieldType.boolean), Jvm.Cond.code ({ cls := "java/lang/StringLatin1", name := "charAt", desc := "([BI)C" } : Jvm.MethodName) jdk_43_method_2_code (2 : Nat) (Option.some Jvm.ClassFile.FieldType.char), Jvm.Cond.code ({ cls := "java/lang/String", name := "checkIndex", desc := "(II)V" } : Jvm.MethodName) jdk_42_method_155_code (2 : Nat) (Option.none : Option Jvm.ClassFile.FieldType), Jvm.Cond.code ({ cls := "jdk/internal/util/Preconditions", name := "checkIndex", desc := "(IILjava/util/function/BiFunction;)I" } : Jvm.MethodName) jdk_41_method_11_code (3 : Nat) (Option.some Jvm.ClassFile.FieldType.int), Jvm.Cond.code ({ cls := "com/example/oxpecker/oxpecker/http/HttpInput", name := "isToken", desc := "(I)Z" } : Jvm.MethodName) prog_11_method_22_code (1 : Nat) (Option.some Jvm.ClassFile.FieldType.boolean), Jvm.Cond.code ({ cls := "java/lang/StringUTF16", name := "toBytes", desc := "([CII)[B" } : Jvm.MethodName) jdk_52_method_14_code (5 : Nat) (Option.some (Jvm.ClassFile.FieldType.array Jvm.ClassFile.FieldType.byte)), Jvm.Cond.code ({ cls := "java/lang/StringUTF16", name := "newBytesFor", desc := "(I)[B" } : Jvm.MethodName) jdk_52_method_2_code (1 : Nat) (Option.some (Jvm.ClassFile.FieldType.array Jvm.ClassFile.FieldType.byte)), Jvm.Cond.code ({ cls := "java/lang/StringUTF16", name := "newBytesLength", desc := "(I)I" } : Jvm.MethodName) jdk_52_method_3_code (1 : Nat) (Option.some Jvm.ClassFile.FieldType.int), Jvm.Cond.code ({ cls := "java/lang/StringUTF16", name := "putChar", desc := "([BII)V" } : Jvm.MethodName) jdk_52_method_4_code (3 : Nat) (Option.none : Option Jvm.ClassFile.FieldType), Jvm.Cond.code ({ cls := "java/lang/StringUTF16", name := "getChar", desc := "([BI)C" } : Jvm.MethodName) jdk_52_method_5_code (2 : Nat) (Option.some Jvm.ClassFile.FieldType.char), Jvm.Cond.code ({ cls := "java/lang/StringUTF16", name := "charAt", desc := "([BI)C" } : Jvm.MethodName) jdk_52_method_83_code (2 : Nat) (Option.some Jvm.ClassFile.FieldType.char), Jvm.Cond.code ({ cls := "java/lang/StringUTF16", name := "checkIndex", desc := "(I[B)V" } : Jvm.MethodName) jdk_52_method_91_code (2 : Nat) (Option.none : Option Jvm.ClassFile.FieldType), Jvm.Cond.code ({ cls := "java/lang/StringUTF16", name := "length", desc := "([B)I" } : Jvm.MethodName) jdk_52_method_6_code (1 : Nat) (Option.some Jvm.ClassFile.FieldType.int)]
set_option maxRecDepth 65536 in
theorem codes_eq : words1.filter isCode = codes1 := rfl
theorem w_codes : ∀ c ∈ words1.filter isCode, c.before args0 about1 = true := by
  rw [codes_eq]
  intro c hc
  simp only [codes1, List.mem_cons, List.not_mem_nil, or_false] at hc
  rcases hc with rfl | rfl | rfl | rfl | rfl | rfl | rfl | rfl | rfl | rfl | rfl | rfl | rfl | rfl | rfl | rfl | rfl | rfl | rfl | rfl | rfl | rfl | rfl | rfl | rfl | rfl
  · exact w_c0
  · exact w_c1
  · exact w_c2
  · exact w_c3
  · exact w_c4
  · exact w_c5
  · exact w_c6
  · exact w_c7
  · exact w_c8
  · exact w_c9
  · exact w_c10
  · exact w_c11
  · exact w_c12
  · exact w_c13
  · exact w_c14
  · exact w_c15
  · exact w_c16
  · exact w_c17
  · exact w_c18
  · exact w_c19
  · exact w_c20
  · exact w_c21
  · exact w_c22
  · exact w_c23
  · exact w_c24
  · exact w_c25
set_option maxRecDepth 65536 in
theorem w_t1 : (words1.take 24).all (fun c => isCode c || c.before args0 about1) = true := by decide +kernel
set_option maxRecDepth 65536 in
theorem w_t2 : ((words1.drop 24).take 24).all (fun c => isCode c || c.before args0 about1) = true := by decide +kernel
set_option maxRecDepth 65536 in
theorem w_t3 : (((words1.drop 24).drop 24).take 24).all (fun c => isCode c || c.before args0 about1) = true := by decide +kernel
set_option maxRecDepth 65536 in
theorem w_t4 : ((((words1.drop 24).drop 24).drop 24).take 24).all (fun c => isCode c || c.before args0 about1) = true := by decide +kernel
set_option maxRecDepth 65536 in
theorem w_t5 : ((((words1.drop 24).drop 24).drop 24).drop 24).all (fun c => isCode c || c.before args0 about1) = true := by decide +kernel
theorem w_tables : (allAtoms (Jvm.Cond.code x code maxLocals ret :: tables_1)).before args0 about1 = true := by
  rw [allAtoms_all]
  show words1.all (fun c => c.before args0 about1) = true
  refine all_split ?_ w_codes
  rw [← List.take_append_drop 24 words1, List.all_append, w_t1, ← List.take_append_drop 24 (words1.drop 24), List.all_append, w_t2, ← List.take_append_drop 24 ((words1.drop 24).drop 24), List.all_append, w_t3, ← List.take_append_drop 24 (((words1.drop 24).drop 24).drop 24), List.all_append, w_t4, w_t5]
  rfl
set_option maxRecDepth 65536 in
theorem w_rest : rest_1_c.before args0 about1 = true := by decide +kernel
set_option maxRecDepth 65536 in
theorem w_case : (Jvm.Cond.and given_1 narrow_1).before args0 about1 = true := by decide +kernel
set_option maxRecDepth 65536 in
theorem w_consts : constsHeld consts_1 about1 := Jvm.Lit.constsHeldB_iff.mp (by decide +kernel)
theorem w_applies : (headSpec (Jvm.Cond.code x code maxLocals ret :: tables_1) room_1).applies x e0.platform about1 = true :=
  (Spec.applies_iff w_frames).mpr ⟨w_running, w_runnable, w_alone, w_named, w_hears, w_ripe, w_room, w_tables⟩
theorem atStart : AtStart classFile x code maxLocals ret World_1 tables_1 room_1 Calls_1 rest_1 Pre_1 launch0 p0 e0 about1 theMethod args0 below0 :=
  ⟨lists_1, trivial, launch0.admits_env _ _ _, launch0.least_env, fairChoices_fair.cas, fairChoices_fair.clock, w_frames, w_args, w_heap, w_applies, ⟨w_consts, trivial⟩, w_rest, w_case⟩
end start1
theorem witness_1 : WitnessClaimed_1 := ⟨start1.p0, start1.e0, start1.about1, start1.theMethod, start1.args0, start1.below0, start1.atStart⟩
end Jvm.Pilot.@@N@@
